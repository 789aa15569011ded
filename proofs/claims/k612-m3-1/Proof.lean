import JvmDerived
import JvmDerived.Pilot.@@N@@Statement
import JvmDerived.Pilot.@@N@@Code
set_option linter.unusedVariables false
set_option linter.unusedSimpArgs false
set_option maxHeartbeats 4000000
namespace Jvm.Pilot.@@N@@
open Jvm Jvm.ClassFile Sem Op Lib Jvm.Free Jvm.Stand Jvm.LawKit Jvm.RoadKit Bundle Jvm.Pilot.@@N@@.Jvm.D
/-! LAYER: an abstract walk over own objects (printed by wip/layer/mklayer.py) -/
abbrev oC : Type := (Nat × List Value) ⊕ (FieldType × List Value)
abbrev oH : Type := List oC
abbrev oK : Type := Nat → String × List (String × String × String)
abbrev oS : Type := Nat × List Slot × List Value × oH × Nat × Nat
/-- where the own objects lie, and others (written as return addresses, which no code here has) -/
abbrev oM : Type := (Nat → Nat) × (Nat → Nat)
def ov (ρ : oM) : Value → Value
  | .ref k => .ref (ρ.1 k)
  | .retAddr k => .ref (ρ.2 k)
  | v => v
def osl (ρ : oM) : Slot → Slot
  | .val v => .val (ov ρ v)
  | x => x
theorem ov_cat (ρ : oM) (v : Value) : (ov ρ v).category = v.category := by cases v <;> rfl
theorem ov_dflt (ρ : oM) (t : FieldType) : ov ρ (defaultValue t) = defaultValue t := by cases t <;> rfl
/-- what an own cell is, in the heap -/
def oR (Z : State) (K : oK) (ρ : oM) (h : Heap) (a : Addr) (c : oC) : Prop := match c with
  | .inl o => Exa Z h a (K o.1).1 ∧ ∀ (i : Nat) (f : String × String × String) (v : Value), (K o.1).2[i]? = some f → o.2[i]? = some v → Fld Z h a f.1 f.2.1 f.2.2 (ov ρ v)
  | .inr q => (q.2.length < 2 ^ 31 ∧ ∀ w ∈ q.2, fits q.1 (ov ρ w) = true) ∧ ∃ cl : Cell, Arr Z h a cl q.1 ∧ cl.slots = (q.2.map (ov ρ)).toArray
def oRep (Z : State) (K : oK) (ρ : oM) (h : Heap) (A : oH) : Prop := (h.size = ρ.1 A.length ∧ (∀ k, A.length ≤ k → ρ.1 (k + 1) = ρ.1 k + 1) ∧ ∀ j k, j < k → ρ.1 j < ρ.1 k) ∧ ∀ (k : Nat) (c : oC), A[k]? = some c → oR Z K ρ h (ρ.1 k) c
theorem oR.ext {Z : State} {K : oK} {ρ : oM} {h h' : Heap} {a : Addr} {c : oC} (E : Ext h h') (H : oR Z K ρ h a c) : oR Z K ρ h' a c := by
  rcases c with o | q
  · exact ⟨H.1.ext E, fun i f v h1 h2 => (H.2 i f v h1 h2).ext E⟩
  · obtain ⟨h1, cl, h2, h3⟩ := H
    exact ⟨h1, cl, h2.ext E, h3⟩
theorem oR.other {Z : State} {K : oK} {ρ : oM} {h h' : Heap} {a b : Addr} {sl : Nat} {v : Value} {c : oC} (W : Wr h h' a sl v) (hne : b ≠ a) (H : oR Z K ρ h b c) : oR Z K ρ h' b c := by
  rcases c with o | q
  · exact ⟨H.1.wr W, fun i f w h1 h2 => (H.2 i f w h1 h2).other W (Or.inl hne)⟩
  · obtain ⟨h1, cl, h2, h3⟩ := H
    exact ⟨h1, cl, h2.other W hne, h3⟩
theorem oRep.ne {Z : State} {K : oK} {ρ : oM} {h : Heap} {A : oH} (H : oRep Z K ρ h A) {j k : Nat} (q : j ≠ k) : ρ.1 j ≠ ρ.1 k := by
  rcases Nat.lt_or_gt_of_ne q with q | q
  · exact Nat.ne_of_lt (H.1.2.2 _ _ q)
  · exact Nat.ne_of_gt (H.1.2.2 _ _ q)
theorem oRep.ge {Z : State} {K : oK} {ρ : oM} {h : Heap} {A : oH} (H : oRep Z K ρ h A) (k : Nat) : ρ.1 0 ≤ ρ.1 k := by
  rcases Nat.eq_zero_or_pos k with q | q
  · rw [q]; exact Nat.le_refl _
  · exact Nat.le_of_lt (H.1.2.2 _ _ q)
theorem oRep.push {Z : State} {K : oK} {ρ : oM} {h h' : Heap} {A : oH} {c : oC} (H : oRep Z K ρ h A) (E : Ext h h') (hs : h'.size = h.size + 1) (hc : oR Z K ρ h' h.size c) : oRep Z K ρ h' (A ++ [c]) := by
  refine ⟨⟨by rw [hs, H.1.1, List.length_append]; exact (H.1.2.1 _ (Nat.le_refl _)).symm, fun k hk => H.1.2.1 k (by rw [List.length_append] at hk; omega), H.1.2.2⟩, fun k d hd => ?_⟩
  rcases Nat.lt_trichotomy k A.length with q | q | q
  · rw [List.getElem?_append_left q] at hd
    exact (H.2 k d hd).ext E
  · subst q
    simp at hd
    subst hd
    rw [← H.1.1]; exact hc
  · rw [List.getElem?_eq_none (by simp; omega)] at hd; cases hd
theorem oRep.wr {Z : State} {K : oK} {ρ : oM} {h h' : Heap} {A : oH} {c : oC} {k sl : Nat} {v : Value} (H : oRep Z K ρ h A) (W : Wr h h' (ρ.1 k) sl v) (hc : oR Z K ρ h' (ρ.1 k) c) : oRep Z K ρ h' (A.set k c) := by
  refine ⟨⟨by rw [W.size, H.1.1, List.length_set], by rw [List.length_set]; exact H.1.2.1, H.1.2.2⟩, fun j d hd => ?_⟩
  by_cases q : j = k
  · subst q
    by_cases hj : j < A.length
    · rw [List.getElem?_set_self hj] at hd; cases hd; exact hc
    · rw [List.getElem?_eq_none (by simp; omega)] at hd; cases hd
  · rw [List.getElem?_set_ne (Ne.symm q)] at hd
    exact (H.2 j d hd).other W (H.ne q)
/-- the fields that a class lays, with their words -/
def oLaid (Z : State) (a0 : Array Value) (C : String) : List (String × String × String) → Prop
  | [] => True
  | f :: fs => (Laid Z a0 C f.1 f.2.1 f.2.2 ∧ ∃ t, parseFieldDescriptor f.2.2 = some t) ∧ oLaid Z a0 C fs
theorem oLaid.at {Z : State} {a0 : Array Value} {C : String} : ∀ {fs : List (String × String × String)}, oLaid Z a0 C fs → ∀ (i : Nat) (f : String × String × String), fs[i]? = some f → Laid Z a0 C f.1 f.2.1 f.2.2 ∧ ∃ t, parseFieldDescriptor f.2.2 = some t
  | [], _, i, f, h => by simp at h
  | g :: gs, H, 0, f, h => by simp at h; subst h; exact H.1
  | g :: gs, H, i + 1, f, h => oLaid.at H.2 i f (by simpa using h)
def oDistinct (fs : List (String × String × String)) : Prop := ∀ (i j : Nat) (f g : String × String × String), fs[i]? = some f → fs[j]? = some g → i ≠ j → f.2.1 ≠ g.2.1
theorem oDistinct.of {fs : List (String × String × String)} (h : (fs.map fun f => f.2.1).Nodup) : oDistinct fs := fun i j f g hi hj hne e => by
  have h1 : (fs.map fun f => f.2.1)[i]? = some f.2.1 := by simp [hi]
  have h2 : (fs.map fun f => f.2.1)[j]? = some g.2.1 := by simp [hj]
  obtain ⟨q1, e1⟩ := List.getElem?_eq_some_iff.mp h1
  obtain ⟨q2, e2⟩ := List.getElem?_eq_some_iff.mp h2
  have hp := List.pairwise_iff_getElem.mp h
  rcases Nat.lt_or_gt_of_ne hne with q | q
  · exact hp i j q1 q2 q (by rw [e1, e2, e])
  · exact hp j i q2 q1 q (by rw [e1, e2, e])
def oKOk (Z : State) (a0 : Array Value) (K : oK) (cid : Nat) : Prop := oLaid Z a0 (K cid).1 (K cid).2 ∧ oDistinct (K cid).2
def oDflt : List (String × String × String) → List Value → Prop
  | [], [] => True
  | f :: fs, v :: vs => (∃ t, parseFieldDescriptor f.2.2 = some t ∧ v = defaultValue t) ∧ oDflt fs vs
  | _, _ => False
theorem oDflt.at : ∀ {fs : List (String × String × String)} {vs : List Value}, oDflt fs vs → ∀ (i : Nat) (f : String × String × String) (v : Value), fs[i]? = some f → vs[i]? = some v → ∃ t, parseFieldDescriptor f.2.2 = some t ∧ v = defaultValue t
  | [], [], _, i, f, v, h, _ => by simp at h
  | [], w :: ws, H, _, _, _, _, _ => H.elim
  | g :: gs, [], H, _, _, _, _, _ => H.elim
  | g :: gs, w :: ws, H, 0, f, v, h, h' => by simp at h h'; subst h h'; exact H.1
  | g :: gs, w :: ws, H, i + 1, f, v, h, h' => oDflt.at H.2 i f v (by simpa using h) (by simpa using h')
/-! the local variables -/
def oAt (L : List Slot) (i : Nat) (x : Slot) : Option (List Slot) := if i < L.length then some (L.set i x) else none
def oSelf (L : List Slot) (i : Nat) (v : Value) : Option (List Slot) :=
  (oAt L i (.val v)).bind fun L =>
  if v.category = 2 then
    (L[i + 1]?).bind fun x => match x with
      | .val old => if old.category = 2 then (oAt L (i + 2) .unset).bind fun L => oAt L (i + 1) .second else oAt L (i + 1) .second
      | .unset => oAt L (i + 1) .second
      | .second => oAt L (i + 1) .second
  else some L
def oSt (L : List Slot) (i : Nat) (v : Value) : Option (List Slot) :=
  (L[i]?).bind fun x => match x with
    | .second => (oAt L (i - 1) .unset).bind fun L => oSelf L i v
    | .val old => if old.category = 2 then (oAt L (i + 1) .unset).bind fun L => oSelf L i v else oSelf L i v
    | .unset => oSelf L i v
theorem oget {ρ : oM} {L : List Slot} {k : Nat} {x : Slot} (h : L[k]? = some x) : (L.map (osl ρ)).toArray[k]? = some (osl ρ x) := by simp [h]
theorem oAt_ok {ρ : oM} {L L' : List Slot} {i : Nat} {x : Slot} (h : oAt L i x = some L') : setAt (L.map (osl ρ)).toArray i (osl ρ x) = some (L'.map (osl ρ)).toArray ∧ L'.length = L.length := by
  unfold oAt at h
  split at h
  · rename_i hi
    cases h
    refine ⟨?_, by simp⟩
    have hi' : i < (L.map (osl ρ)).toArray.size := by simpa using hi
    have e : setAt (L.map (osl ρ)).toArray i (osl ρ x) = some ((L.map (osl ρ)).toArray.setIfInBounds i (osl ρ x)) := if_pos hi'
    rw [e]; simp
  · cases h
theorem oSelf_eq {l : Array Slot} {i : Nat} {v : Value} : storeSelf l i v = ((setAt l i (.val v)).bind fun l => if v.category = 2 then (l[i + 1]?).bind fun x => match x with
      | .val old => if old.category = 2 then (setAt l (i + 2) .unset).bind fun l => setAt l (i + 1) .second else setAt l (i + 1) .second
      | .unset => setAt l (i + 1) .second
      | .second => setAt l (i + 1) .second
  else some l) := by
  show (setAt l i (.val v)).bind _ = _
  cases setAt l i (.val v) with
  | none => rfl
  | some l =>
    show (if v.category = 2 then _ else _) = (if v.category = 2 then _ else _)
    split
    · show (l[i + 1]?).bind _ = (l[i + 1]?).bind _
      cases l[i + 1]? with
      | none => rfl
      | some x => cases x <;> rfl
    · rfl
theorem oSelf_ok {ρ : oM} {L L' : List Slot} {i : Nat} {v : Value} (h : oSelf L i v = some L') : storeSelf (L.map (osl ρ)).toArray i (ov ρ v) = some (L'.map (osl ρ)).toArray ∧ L'.length = L.length := by
  rw [oSelf_eq]
  unfold oSelf at h
  obtain ⟨L1, h1, h⟩ := Option.bind_eq_some_iff.mp h
  have q1 := oAt_ok (ρ := ρ) h1
  have q1' : setAt (L.map (osl ρ)).toArray i (.val (ov ρ v)) = some (L1.map (osl ρ)).toArray := q1.1
  rw [q1', ov_cat]
  show (if v.category = 2 then _ else _) = _ ∧ _
  split at h
  · rename_i hc
    rw [if_pos hc]
    obtain ⟨x, h2, h⟩ := Option.bind_eq_some_iff.mp h
    rw [oget h2]
    cases x with
    | unset => have q := oAt_ok (ρ := ρ) h; exact ⟨q.1, q.2.trans q1.2⟩
    | second => have q := oAt_ok (ρ := ρ) h; exact ⟨q.1, q.2.trans q1.2⟩
    | val old =>
      show (if (ov ρ old).category = 2 then _ else _) = _ ∧ _
      rw [ov_cat]
      dsimp only at h
      split at h
      · rename_i hc2
        rw [if_pos hc2]
        obtain ⟨L2, h3, h⟩ := Option.bind_eq_some_iff.mp h
        have q2 := oAt_ok (ρ := ρ) h3
        have q2' : setAt (L1.map (osl ρ)).toArray (i + 2) .unset = some (L2.map (osl ρ)).toArray := q2.1
        rw [q2']
        have q := oAt_ok (ρ := ρ) h
        exact ⟨q.1, (q.2.trans q2.2).trans q1.2⟩
      · rename_i hc2
        rw [if_neg hc2]
        have q := oAt_ok (ρ := ρ) h
        exact ⟨q.1, q.2.trans q1.2⟩
  · rename_i hc
    rw [if_neg hc]
    cases h
    exact ⟨rfl, q1.2⟩
theorem oSt_eq {l : Array Slot} {i : Nat} {v : Value} : storeLocals l i v = ((l[i]?).bind fun x => match x with
    | .second => (setAt l (i - 1) .unset).bind fun l => storeSelf l i v
    | .val old => if old.category = 2 then (setAt l (i + 1) .unset).bind fun l => storeSelf l i v else storeSelf l i v
    | .unset => storeSelf l i v) := by
  show (l[i]?).bind _ = (l[i]?).bind _
  cases l[i]? with
  | none => rfl
  | some x => cases x <;> rfl
theorem oSt_ok {ρ : oM} {L L' : List Slot} {i : Nat} {v : Value} (h : oSt L i v = some L') : storeLocals (L.map (osl ρ)).toArray i (ov ρ v) = some (L'.map (osl ρ)).toArray ∧ L'.length = L.length := by
  rw [oSt_eq]
  unfold oSt at h
  obtain ⟨x, h1, h⟩ := Option.bind_eq_some_iff.mp h
  rw [oget h1]
  cases x with
  | unset => exact oSelf_ok h
  | second =>
    obtain ⟨L1, h2, h⟩ := Option.bind_eq_some_iff.mp h
    have q1 := oAt_ok (ρ := ρ) h2
    have q1' : setAt (L.map (osl ρ)).toArray (i - 1) .unset = some (L1.map (osl ρ)).toArray := q1.1
    show (setAt _ _ _).bind _ = _ ∧ _
    rw [q1']
    have q := oSelf_ok (ρ := ρ) h
    exact ⟨q.1, q.2.trans q1.2⟩
  | val old =>
    show (if (ov ρ old).category = 2 then _ else _) = _ ∧ _
    rw [ov_cat]
    dsimp only at h
    split at h
    · rename_i hc
      rw [if_pos hc]
      obtain ⟨L1, h2, h⟩ := Option.bind_eq_some_iff.mp h
      have q1 := oAt_ok (ρ := ρ) h2
      have q1' : setAt (L.map (osl ρ)).toArray (i + 1) .unset = some (L1.map (osl ρ)).toArray := q1.1
      rw [q1']
      have q := oSelf_ok (ρ := ρ) h
      exact ⟨q.1, q.2.trans q1.2⟩
    · rename_i hc
      rw [if_neg hc]
      exact oSelf_ok h
/-- a slot of any kind of one word is written over -/
theorem oSt_one {L : List Slot} {i : Nat} {v : Value} {o : Slot} (h : L[i]? = some o) (ho : One o) (hv : v.category = 1) : oSt L i v = some (L.set i (.val v)) := by
  have hi := (List.getElem?_eq_some_iff.mp h).1
  have e : oSelf L i v = some (L.set i (.val v)) := by
    unfold oSelf oAt
    rw [if_pos hi]
    show (if v.category = 2 then _ else _) = _
    rw [if_neg (by omega)]
  unfold oSt
  rw [h]
  rcases ho with rfl | ⟨w, rfl, hw⟩
  · exact e
  · show (if w.category = 2 then _ else _) = _
    rw [if_neg (by omega)]; exact e
/-! the judgements -/
abbrev oF (ρ : oM) (m : MethodId) (a : oS) : JFrame := mkF m a.1 (a.2.1.map (osl ρ)).toArray (a.2.2.1.map (ov ρ))
/-- from the abstract state a the walk comes to b -/
def Sim (l : Launch) (Z : State) (K : oK) (ρ : oM) (own mn : String) (bytes : ByteArray) (ml : Nat) (R : Room) (a b : oS) : Prop :=
  ∀ (p : Program) (e : Env) (s : State) (m : MethodId) (args : Array Value) (below : List Frame) (meth : Method) (c : Code) (T : State) (locs : List Loc),
    Stand p l e R s m args below meth c T locs a.2.2.2.2.1 a.2.2.2.2.2 → p.tables.exec = Jvm.exec → Z.Warmed39 s.vm → c.code = bytes → c.maxLocals = ml → s.vm.findClass own = some m.cls → meth.name = mn → oRep Z K ρ T.heap a.2.2.2.1 → Fr (ρ.1 0) locs → a.2.1.length = ml →
    ∃ (T' : State) (locs' : List Loc), Stand p l e R s m args below meth c T' locs' b.2.2.2.2.1 b.2.2.2.2.2 ∧ oRep Z K ρ T'.heap b.2.2.2.1 ∧ Fr (ρ.1 0) locs' ∧ b.2.1.length = ml ∧
      ∀ target, Steps p.tables e below (T'.setTop (oF ρ m b)) target → Steps p.tables e below (T.setTop (oF ρ m a)) target
/-- from the abstract state a the method returns v, and its own heap is then A' -/
def Ends (l : Launch) (Z : State) (K : oK) (ρ : oM) (own mn : String) (bytes : ByteArray) (ml : Nat) (R : Room) (ret : Option FieldType) (a : oS) (v : Option Value) (A' : oH) : Prop :=
  ∀ (p : Program) (e : Env) (s : State) (m : MethodId) (args : Array Value) (below : List Frame) (meth : Method) (c : Code) (T : State) (locs : List Loc),
    Stand p l e R s m args below meth c T locs a.2.2.2.2.1 a.2.2.2.2.2 → p.tables.exec = Jvm.exec → Z.Warmed39 s.vm → c.code = bytes → c.maxLocals = ml → s.vm.findClass own = some m.cls → meth.name = mn → oRep Z K ρ T.heap a.2.2.2.1 → Fr (ρ.1 0) locs → a.2.1.length = ml →
    meth.sig.returnType = ret → meth.locks = false →
    ∃ (s₂ : State) (locs' : List Loc), Steps p.tables e below (T.setTop (oF ρ m a)) s₂ ∧ s₂.status = .running ∧ Ended s₂ below (.returned (v.map (ov ρ))) ∧ Fr (ρ.1 0) locs' ∧ oRep Z K ρ s₂.heap A' ∧ s.WarmedH s₂.vm ∧ s.sameButNew ({ s₂ with vm := s.vm } : State) locs' R.cells R.slots
/-- the contract of a method at given arguments and own heap -/
def Met (l : Launch) (Z : State) (K : oK) (ρ : oM) (y : MethodName) (bytes : ByteArray) (ml : Nat) (ret : Option FieldType) (rm : Room) (ws : List Jvm.Cond) (as : List Value) (A : oH) (v : Option Value) (A' : oH) : Prop :=
  ∀ h0, oRep Z K ρ h0 A → MetFree l y (head1 (Jvm.Cond.code y bytes ml ret :: ws) rm) (fun a U => a = (as.map (ov ρ)).toArray ∧ Z.Warmed39 U.vm ∧ U.heap = h0) (fun _ _ _ _ _ => True)
    (fun _ U o U' => ∃ v' L, o = .returned v' ∧ (v' = v.map (ov ρ) ∧ Fr (ρ.1 0) L ∧ oRep Z K ρ U'.heap A') ∧ FrameEnd U o U' L rm.cells rm.slots)
section Layer
variable {l : Launch} {Z : State} {K : oK} {ρ : oM} {own mn : String} {bytes : ByteArray} {ml : Nat} {R : Room} {ret : Option FieldType} {a0 : Array Value}
variable {pc pc' : Nat} {L L' : List Slot} {S S' : List Value} {A A' : oH} {c n : Nat} {v : Option Value}
theorem Sim.rf (a : oS) : Sim l Z K ρ own mn bytes ml R a a := fun p e s m args below meth c T locs X _ _ _ _ _ _ hR hF hL => ⟨T, locs, X, hR, hF, hL, fun _ k => k⟩
theorem Sim.tr {a b d : oS} (h1 : Sim l Z K ρ own mn bytes ml R a b) (h2 : Sim l Z K ρ own mn bytes ml R b d) : Sim l Z K ρ own mn bytes ml R a d := fun p e s m args below meth c T locs X hx hZ hby hml hown hnm hR hF hL => by
  obtain ⟨T1, l1, X1, R1, F1, L1, k1⟩ := h1 p e s m args below meth c T locs X hx hZ hby hml hown hnm hR hF hL
  obtain ⟨T2, l2, X2, R2, F2, L2, k2⟩ := h2 p e s m args below meth c T1 l1 X1 hx hZ hby hml hown hnm R1 F1 L1
  exact ⟨T2, l2, X2, R2, F2, L2, fun t k => k1 t (k2 t k)⟩
theorem Ends.st {a b : oS} (h1 : Sim l Z K ρ own mn bytes ml R a b) (h2 : Ends l Z K ρ own mn bytes ml R ret b v A') : Ends l Z K ρ own mn bytes ml R ret a v A' := fun p e s m args below meth c T locs X hx hZ hby hml hown hnm hR hF hL hrt hlk => by
  obtain ⟨T1, l1, X1, R1, F1, L1, k1⟩ := h1 p e s m args below meth c T locs X hx hZ hby hml hown hnm hR hF hL
  obtain ⟨s2, l2, g1, g2⟩ := h2 p e s m args below meth c T1 l1 X1 hx hZ hby hml hown hnm R1 F1 L1 hrt hlk
  exact ⟨s2, l2, k1 s2 g1, g2⟩
/-- the same, whatever its own heap is then -/
def EndsE (l : Launch) (Z : State) (K : oK) (ρ : oM) (own mn : String) (bytes : ByteArray) (ml : Nat) (R : Room) (ret : Option FieldType) (a : oS) (v : Option Value) : Prop := ∃ A', Ends l Z K ρ own mn bytes ml R ret a v A'
theorem EndsE.st {a b : oS} (h1 : Sim l Z K ρ own mn bytes ml R a b) (h2 : EndsE l Z K ρ own mn bytes ml R ret b v) : EndsE l Z K ρ own mn bytes ml R ret a v := h2.imp fun _ h => Ends.st h1 h
theorem Sim.pure (hl : L'.length = L.length)
    (h : ∀ (p : Program) (e : Env) (s : State) (m : MethodId) (args : Array Value) (below : List Frame) (meth : Method) (cd : Code) (T : State) (locs : List Loc), Stand p l e R s m args below meth cd T locs c n → p.tables.exec = Jvm.exec → Z.Warmed39 s.vm → cd.code = bytes → s.vm.findClass own = some m.cls →
      ∀ target, Steps p.tables e below (T.setTop (oF ρ m (pc', L', S', A, c, n))) target → Steps p.tables e below (T.setTop (oF ρ m (pc, L, S, A, c, n))) target) :
    Sim l Z K ρ own mn bytes ml R (pc, L, S, A, c, n) (pc', L', S', A, c, n) :=
  fun p e s m args below meth cd T locs X hx hZ hby hml hown hnm hR hF hL => ⟨T, locs, X, hR, hF, hl.trans hL, h p e s m args below meth cd T locs X hx hZ hby hown⟩

theorem s_iload {j : Nat} {z : Int32} (hd : decode bytes pc = .ok (.iload j, 2)) (hl : L[j]? = some (.val (.int z))) : Sim l Z K ρ own mn bytes ml R (pc, L, S, A, c, n) (pc + 2, L, .int z :: S, A, c, n) :=
  Sim.pure rfl fun p e s m args below meth cd T locs X hx hZ hby hown target k => XS.iload X.here hx rfl (hb hby hd) (oget hl) k
theorem s_iloadN {j : Fin 4} {z : Int32} (hd : decode bytes pc = .ok (.iload_n j, 1)) (hl : L[j.val]? = some (.val (.int z))) : Sim l Z K ρ own mn bytes ml R (pc, L, S, A, c, n) (pc + 1, L, .int z :: S, A, c, n) :=
  Sim.pure rfl fun p e s m args below meth cd T locs X hx hZ hby hown target k => XS.iloadN X.here hx rfl (hb hby hd) (oget hl) k
theorem s_lload {j : Nat} {z : Int64} (hd : decode bytes pc = .ok (.lload j, 2)) (hl : L[j]? = some (.val (.long z))) : Sim l Z K ρ own mn bytes ml R (pc, L, S, A, c, n) (pc + 2, L, .long z :: S, A, c, n) :=
  Sim.pure rfl fun p e s m args below meth cd T locs X hx hZ hby hown target k => XS.lload X.here hx rfl (hb hby hd) (oget hl) k
theorem s_lloadN {j : Fin 4} {z : Int64} (hd : decode bytes pc = .ok (.lload_n j, 1)) (hl : L[j.val]? = some (.val (.long z))) : Sim l Z K ρ own mn bytes ml R (pc, L, S, A, c, n) (pc + 1, L, .long z :: S, A, c, n) :=
  Sim.pure rfl fun p e s m args below meth cd T locs X hx hZ hby hown target k => XS.lloadN X.here hx rfl (hb hby hd) (oget hl) k
theorem s_aload {j : Nat} {w : Value} (hd : decode bytes pc = .ok (.aload j, 2)) (hl : L[j]? = some (.val w)) (hv : (ov ρ w).isRef = true) : Sim l Z K ρ own mn bytes ml R (pc, L, S, A, c, n) (pc + 2, L, w :: S, A, c, n) :=
  Sim.pure rfl fun p e s m args below meth cd T locs X hx hZ hby hown target k => XS.aload X.here hx rfl (hb hby hd) (oget hl) hv k
theorem s_aloadN {j : Fin 4} {w : Value} (hd : decode bytes pc = .ok (.aload_n j, 1)) (hl : L[j.val]? = some (.val w)) (hv : (ov ρ w).isRef = true) : Sim l Z K ρ own mn bytes ml R (pc, L, S, A, c, n) (pc + 1, L, w :: S, A, c, n) :=
  Sim.pure rfl fun p e s m args below meth cd T locs X hx hZ hby hown target k => XS.aloadN X.here hx rfl (hb hby hd) (oget hl) hv k
theorem s_istore {j : Nat} {z : Int32} (hd : decode bytes pc = .ok (.istore j, 2)) (hl : oSt L j (.int z) = some L') : Sim l Z K ρ own mn bytes ml R (pc, L, .int z :: S, A, c, n) (pc + 2, L', S, A, c, n) :=
  Sim.pure (oSt_ok (ρ := ρ) hl).2 fun p e s m args below meth cd T locs X hx hZ hby hown target k => XS.istore X.here hx rfl (hb hby hd) rfl (oSt_ok (ρ := ρ) hl).1 k
theorem s_istoreN {j : Fin 4} {z : Int32} (hd : decode bytes pc = .ok (.istore_n j, 1)) (hl : oSt L j.val (.int z) = some L') : Sim l Z K ρ own mn bytes ml R (pc, L, .int z :: S, A, c, n) (pc + 1, L', S, A, c, n) :=
  Sim.pure (oSt_ok (ρ := ρ) hl).2 fun p e s m args below meth cd T locs X hx hZ hby hown target k => XS.istoreN X.here hx rfl (hb hby hd) rfl (oSt_ok (ρ := ρ) hl).1 k
theorem s_lstore {j : Nat} {z : Int64} (hd : decode bytes pc = .ok (.lstore j, 2)) (hl : oSt L j (.long z) = some L') : Sim l Z K ρ own mn bytes ml R (pc, L, .long z :: S, A, c, n) (pc + 2, L', S, A, c, n) :=
  Sim.pure (oSt_ok (ρ := ρ) hl).2 fun p e s m args below meth cd T locs X hx hZ hby hown target k => XS.lstore X.here hx rfl (hb hby hd) rfl (oSt_ok (ρ := ρ) hl).1 k
theorem s_lstoreN {j : Fin 4} {z : Int64} (hd : decode bytes pc = .ok (.lstore_n j, 1)) (hl : oSt L j.val (.long z) = some L') : Sim l Z K ρ own mn bytes ml R (pc, L, .long z :: S, A, c, n) (pc + 1, L', S, A, c, n) :=
  Sim.pure (oSt_ok (ρ := ρ) hl).2 fun p e s m args below meth cd T locs X hx hZ hby hown target k => XS.lstoreN X.here hx rfl (hb hby hd) rfl (oSt_ok (ρ := ρ) hl).1 k
theorem s_astore {j : Nat} {w : Value} (hd : decode bytes pc = .ok (.astore j, 2)) (hv : (ov ρ w).isRef = true) (hl : oSt L j w = some L') : Sim l Z K ρ own mn bytes ml R (pc, L, w :: S, A, c, n) (pc + 2, L', S, A, c, n) :=
  Sim.pure (oSt_ok (ρ := ρ) hl).2 fun p e s m args below meth cd T locs X hx hZ hby hown target k => XS.astore X.here hx rfl (hb hby hd) rfl hv (oSt_ok (ρ := ρ) hl).1 k
theorem s_astoreN {j : Fin 4} {w : Value} (hd : decode bytes pc = .ok (.astore_n j, 1)) (hv : (ov ρ w).isRef = true) (hl : oSt L j.val w = some L') : Sim l Z K ρ own mn bytes ml R (pc, L, w :: S, A, c, n) (pc + 1, L', S, A, c, n) :=
  Sim.pure (oSt_ok (ρ := ρ) hl).2 fun p e s m args below meth cd T locs X hx hZ hby hown target k => XS.astoreN X.here hx rfl (hb hby hd) rfl hv (oSt_ok (ρ := ρ) hl).1 k
theorem s_iinc {j : Nat} {i : Int} {z z' : Int32} (hd : decode bytes pc = .ok (.iinc j i, 3)) (h : L[j]? = some (.val (.int z))) (hz : z + Int32.ofInt i = z') (hl : oSt L j (.int z') = some L') : Sim l Z K ρ own mn bytes ml R (pc, L, S, A, c, n) (pc + 3, L', S, A, c, n) := by
  subst hz
  exact Sim.pure (oSt_ok (ρ := ρ) hl).2 fun p e s m args below meth cd T locs X hx hZ hby hown target k => XS.iinc X.here hx rfl (hb hby hd) (oget h) (oSt_ok (ρ := ρ) hl).1 k
theorem s_iconst {i : Int} {z : Int32} (hd : decode bytes pc = .ok (.iconst i, 1)) (hz : (Int32.ofInt i) = z) : Sim l Z K ρ own mn bytes ml R (pc, L, S, A, c, n) (pc + 1, L, .int z :: S, A, c, n) := by
  subst hz
  exact Sim.pure rfl fun p e s m args below meth cd T locs X hx hZ hby hown target k => XS.iconst X.here hx rfl (hb hby hd) k
theorem s_bipush {i : Int} {z : Int32} (hd : decode bytes pc = .ok (.bipush i, 2)) (hz : (Int8.ofInt i).toInt32 = z) : Sim l Z K ρ own mn bytes ml R (pc, L, S, A, c, n) (pc + 2, L, .int z :: S, A, c, n) := by
  subst hz
  exact Sim.pure rfl fun p e s m args below meth cd T locs X hx hZ hby hown target k => XS.bipush X.here hx rfl (hb hby hd) k
theorem s_sipush {i : Int} {z : Int32} (hd : decode bytes pc = .ok (.sipush i, 3)) (hz : (Int16.ofInt i).toInt32 = z) : Sim l Z K ρ own mn bytes ml R (pc, L, S, A, c, n) (pc + 3, L, .int z :: S, A, c, n) := by
  subst hz
  exact Sim.pure rfl fun p e s m args below meth cd T locs X hx hZ hby hown target k => XS.sipush X.here hx rfl (hb hby hd) k
theorem s_lconst {i : Fin 2} {z : Int64} (hd : decode bytes pc = .ok (.lconst i, 1)) (hz : Int64.ofNat i = z) : Sim l Z K ρ own mn bytes ml R (pc, L, S, A, c, n) (pc + 1, L, .long z :: S, A, c, n) := by
  subst hz
  exact Sim.pure rfl fun p e s m args below meth cd T locs X hx hZ hby hown target k => XS.lconst X.here hx rfl (hb hby hd) k
theorem s_aconstNull  (hd : decode bytes pc = .ok (.aconst_null, 1)) : Sim l Z K ρ own mn bytes ml R (pc, L, S, A, c, n) (pc + 1, L, .null :: S, A, c, n) :=
  Sim.pure rfl fun p e s m args below meth cd T locs X hx hZ hby hown target k => XS.aconstNull X.here hx rfl (hb hby hd) k
theorem s_ldc {i : Nat} {z : Int32} (w : (Jvm.Cond.constant own i z).before a0 Z = true) (hd : decode bytes pc = .ok (.ldc i, 2)) : Sim l Z K ρ own mn bytes ml R (pc, L, S, A, c, n) (pc + 2, L, .int z :: S, A, c, n) :=
  Sim.pure rfl fun p e s m args below meth cd T locs X hx hZ hby hown target k => X.ldcInt hx hown (mvT hZ w) (g := oF ρ m (pc, L, S, A, c, n)) rfl (hb hby hd) target k
theorem s_ldcw {i : Nat} {z : Int32} (w : (Jvm.Cond.constant own i z).before a0 Z = true) (hd : decode bytes pc = .ok (.ldc_w i, 3)) : Sim l Z K ρ own mn bytes ml R (pc, L, S, A, c, n) (pc + 3, L, .int z :: S, A, c, n) :=
  Sim.pure rfl fun p e s m args below meth cd T locs X hx hZ hby hown target k => X.ldcwInt hx hown (mvT hZ w) (g := oF ρ m (pc, L, S, A, c, n)) rfl (hb hby hd) target k
theorem s_ldc2 {i : Nat} {z : Int64} (w : (Jvm.Cond.constantLong own i z).before a0 Z = true) (hd : decode bytes pc = .ok (.ldc2_w i, 3)) : Sim l Z K ρ own mn bytes ml R (pc, L, S, A, c, n) (pc + 3, L, .long z :: S, A, c, n) :=
  Sim.pure rfl fun p e s m args below meth cd T locs X hx hZ hby hown target k => X.ldc2Long hx hown (mvT hZ w) (g := oF ρ m (pc, L, S, A, c, n)) rfl (hb hby hd) target k
def jushr (x y : Int32) : Int32 := (x.toUInt32 >>> (y &&& 31).toUInt32).toInt32
def jshl (x y : Int32) : Int32 := x <<< (y &&& 31)
def jshr (x y : Int32) : Int32 := x >>> (y &&& 31)
def jushrL (x : Int64) (y : Int32) : Int64 := (x.toUInt64 >>> (y &&& 0x3f).toInt64.toUInt64).toInt64
def jshlL (x : Int64) (y : Int32) : Int64 := x <<< (y &&& 0x3f).toInt64
def jshrL (x : Int64) (y : Int32) : Int64 := x >>> (y &&& 0x3f).toInt64
def jcmp (x y : Int64) : Int32 := if x > y then 1 else if x = y then 0 else -1
theorem s_iadd {x y : Int32} (hd : decode bytes pc = .ok (.iadd, 1)) : Sim l Z K ρ own mn bytes ml R (pc, L, .int y :: .int x :: S, A, c, n) (pc + 1, L, .int (x + y) :: S, A, c, n) :=
  Sim.pure rfl fun p e s m args below meth cd T locs X hx hZ hby hown target k => XS.iadd X.here hx rfl (hb hby hd) rfl k
theorem s_isub {x y : Int32} (hd : decode bytes pc = .ok (.isub, 1)) : Sim l Z K ρ own mn bytes ml R (pc, L, .int y :: .int x :: S, A, c, n) (pc + 1, L, .int (x - y) :: S, A, c, n) :=
  Sim.pure rfl fun p e s m args below meth cd T locs X hx hZ hby hown target k => XS.isub X.here hx rfl (hb hby hd) rfl k
theorem s_imul {x y : Int32} (hd : decode bytes pc = .ok (.imul, 1)) : Sim l Z K ρ own mn bytes ml R (pc, L, .int y :: .int x :: S, A, c, n) (pc + 1, L, .int (x * y) :: S, A, c, n) :=
  Sim.pure rfl fun p e s m args below meth cd T locs X hx hZ hby hown target k => XS.imul X.here hx rfl (hb hby hd) rfl k
theorem s_iand {x y : Int32} (hd : decode bytes pc = .ok (.iand, 1)) : Sim l Z K ρ own mn bytes ml R (pc, L, .int y :: .int x :: S, A, c, n) (pc + 1, L, .int (x &&& y) :: S, A, c, n) :=
  Sim.pure rfl fun p e s m args below meth cd T locs X hx hZ hby hown target k => XS.iand X.here hx rfl (hb hby hd) rfl k
theorem s_ior {x y : Int32} (hd : decode bytes pc = .ok (.ior, 1)) : Sim l Z K ρ own mn bytes ml R (pc, L, .int y :: .int x :: S, A, c, n) (pc + 1, L, .int (x ||| y) :: S, A, c, n) :=
  Sim.pure rfl fun p e s m args below meth cd T locs X hx hZ hby hown target k => XS.ior X.here hx rfl (hb hby hd) rfl k
theorem s_ixor {x y : Int32} (hd : decode bytes pc = .ok (.ixor, 1)) : Sim l Z K ρ own mn bytes ml R (pc, L, .int y :: .int x :: S, A, c, n) (pc + 1, L, .int (x ^^^ y) :: S, A, c, n) :=
  Sim.pure rfl fun p e s m args below meth cd T locs X hx hZ hby hown target k => XS.ixor X.here hx rfl (hb hby hd) rfl k
theorem s_ishl {x y : Int32} (hd : decode bytes pc = .ok (.ishl, 1)) : Sim l Z K ρ own mn bytes ml R (pc, L, .int y :: .int x :: S, A, c, n) (pc + 1, L, .int (jshl x y) :: S, A, c, n) :=
  Sim.pure rfl fun p e s m args below meth cd T locs X hx hZ hby hown target k => XS.ishl X.here hx rfl (hb hby hd) rfl k
theorem s_ishr {x y : Int32} (hd : decode bytes pc = .ok (.ishr, 1)) : Sim l Z K ρ own mn bytes ml R (pc, L, .int y :: .int x :: S, A, c, n) (pc + 1, L, .int (jshr x y) :: S, A, c, n) :=
  Sim.pure rfl fun p e s m args below meth cd T locs X hx hZ hby hown target k => XS.ishr X.here hx rfl (hb hby hd) rfl k
theorem s_iushr {x y : Int32} (hd : decode bytes pc = .ok (.iushr, 1)) : Sim l Z K ρ own mn bytes ml R (pc, L, .int y :: .int x :: S, A, c, n) (pc + 1, L, .int (jushr x y) :: S, A, c, n) :=
  Sim.pure rfl fun p e s m args below meth cd T locs X hx hZ hby hown target k => XS.iushr X.here hx rfl (hb hby hd) rfl k
theorem s_ladd {x y : Int64} (hd : decode bytes pc = .ok (.ladd, 1)) : Sim l Z K ρ own mn bytes ml R (pc, L, .long y :: .long x :: S, A, c, n) (pc + 1, L, .long (x + y) :: S, A, c, n) :=
  Sim.pure rfl fun p e s m args below meth cd T locs X hx hZ hby hown target k => XS.ladd X.here hx rfl (hb hby hd) rfl k
theorem s_lsub {x y : Int64} (hd : decode bytes pc = .ok (.lsub, 1)) : Sim l Z K ρ own mn bytes ml R (pc, L, .long y :: .long x :: S, A, c, n) (pc + 1, L, .long (x - y) :: S, A, c, n) :=
  Sim.pure rfl fun p e s m args below meth cd T locs X hx hZ hby hown target k => XS.lsub X.here hx rfl (hb hby hd) rfl k
theorem s_lmul {x y : Int64} (hd : decode bytes pc = .ok (.lmul, 1)) : Sim l Z K ρ own mn bytes ml R (pc, L, .long y :: .long x :: S, A, c, n) (pc + 1, L, .long (x * y) :: S, A, c, n) :=
  Sim.pure rfl fun p e s m args below meth cd T locs X hx hZ hby hown target k => XS.lmul X.here hx rfl (hb hby hd) rfl k
theorem s_land {x y : Int64} (hd : decode bytes pc = .ok (.land, 1)) : Sim l Z K ρ own mn bytes ml R (pc, L, .long y :: .long x :: S, A, c, n) (pc + 1, L, .long (x &&& y) :: S, A, c, n) :=
  Sim.pure rfl fun p e s m args below meth cd T locs X hx hZ hby hown target k => XS.land X.here hx rfl (hb hby hd) rfl k
theorem s_lor {x y : Int64} (hd : decode bytes pc = .ok (.lor, 1)) : Sim l Z K ρ own mn bytes ml R (pc, L, .long y :: .long x :: S, A, c, n) (pc + 1, L, .long (x ||| y) :: S, A, c, n) :=
  Sim.pure rfl fun p e s m args below meth cd T locs X hx hZ hby hown target k => XS.lor X.here hx rfl (hb hby hd) rfl k
theorem s_lxor {x y : Int64} (hd : decode bytes pc = .ok (.lxor, 1)) : Sim l Z K ρ own mn bytes ml R (pc, L, .long y :: .long x :: S, A, c, n) (pc + 1, L, .long (x ^^^ y) :: S, A, c, n) :=
  Sim.pure rfl fun p e s m args below meth cd T locs X hx hZ hby hown target k => XS.lxor X.here hx rfl (hb hby hd) rfl k
theorem s_lshl {x : Int64} {y : Int32} (hd : decode bytes pc = .ok (.lshl, 1)) : Sim l Z K ρ own mn bytes ml R (pc, L, .int y :: .long x :: S, A, c, n) (pc + 1, L, .long (jshlL x y) :: S, A, c, n) :=
  Sim.pure rfl fun p e s m args below meth cd T locs X hx hZ hby hown target k => XS.lshl X.here hx rfl (hb hby hd) rfl k
theorem s_lshr {x : Int64} {y : Int32} (hd : decode bytes pc = .ok (.lshr, 1)) : Sim l Z K ρ own mn bytes ml R (pc, L, .int y :: .long x :: S, A, c, n) (pc + 1, L, .long (jshrL x y) :: S, A, c, n) :=
  Sim.pure rfl fun p e s m args below meth cd T locs X hx hZ hby hown target k => XS.lshr X.here hx rfl (hb hby hd) rfl k
theorem s_lushr {x : Int64} {y : Int32} (hd : decode bytes pc = .ok (.lushr, 1)) : Sim l Z K ρ own mn bytes ml R (pc, L, .int y :: .long x :: S, A, c, n) (pc + 1, L, .long (jushrL x y) :: S, A, c, n) :=
  Sim.pure rfl fun p e s m args below meth cd T locs X hx hZ hby hown target k => XS.lushr X.here hx rfl (hb hby hd) rfl k
theorem s_lcmp {x y : Int64} (hd : decode bytes pc = .ok (.lcmp, 1)) : Sim l Z K ρ own mn bytes ml R (pc, L, .long y :: .long x :: S, A, c, n) (pc + 1, L, .int (jcmp x y) :: S, A, c, n) :=
  Sim.pure rfl fun p e s m args below meth cd T locs X hx hZ hby hown target k => XS.lcmp X.here hx rfl (hb hby hd) rfl k
theorem s_ineg {x : Int32} (hd : decode bytes pc = .ok (.ineg, 1)) : Sim l Z K ρ own mn bytes ml R (pc, L, .int x :: S, A, c, n) (pc + 1, L, .int (-x) :: S, A, c, n) :=
  Sim.pure rfl fun p e s m args below meth cd T locs X hx hZ hby hown target k => XS.ineg X.here hx rfl (hb hby hd) rfl k
theorem s_lneg {x : Int64} (hd : decode bytes pc = .ok (.lneg, 1)) : Sim l Z K ρ own mn bytes ml R (pc, L, .long x :: S, A, c, n) (pc + 1, L, .long (-x) :: S, A, c, n) :=
  Sim.pure rfl fun p e s m args below meth cd T locs X hx hZ hby hown target k => XS.lneg X.here hx rfl (hb hby hd) rfl k
theorem s_i2l {x : Int32} (hd : decode bytes pc = .ok (.i2l, 1)) : Sim l Z K ρ own mn bytes ml R (pc, L, .int x :: S, A, c, n) (pc + 1, L, .long (x.toInt64) :: S, A, c, n) :=
  Sim.pure rfl fun p e s m args below meth cd T locs X hx hZ hby hown target k => XS.i2l X.here hx rfl (hb hby hd) rfl k
theorem s_l2i {x : Int64} (hd : decode bytes pc = .ok (.l2i, 1)) : Sim l Z K ρ own mn bytes ml R (pc, L, .long x :: S, A, c, n) (pc + 1, L, .int (x.toInt32) :: S, A, c, n) :=
  Sim.pure rfl fun p e s m args below meth cd T locs X hx hZ hby hown target k => XS.l2i X.here hx rfl (hb hby hd) rfl k
theorem s_i2b {x : Int32} (hd : decode bytes pc = .ok (.i2b, 1)) : Sim l Z K ρ own mn bytes ml R (pc, L, .int x :: S, A, c, n) (pc + 1, L, .int (x.toInt8.toInt32) :: S, A, c, n) :=
  Sim.pure rfl fun p e s m args below meth cd T locs X hx hZ hby hown target k => XS.i2b X.here hx rfl (hb hby hd) rfl k
theorem s_i2s {x : Int32} (hd : decode bytes pc = .ok (.i2s, 1)) : Sim l Z K ρ own mn bytes ml R (pc, L, .int x :: S, A, c, n) (pc + 1, L, .int (x.toInt16.toInt32) :: S, A, c, n) :=
  Sim.pure rfl fun p e s m args below meth cd T locs X hx hZ hby hown target k => XS.i2s X.here hx rfl (hb hby hd) rfl k
theorem s_i2c {x : Int32} (hd : decode bytes pc = .ok (.i2c, 1)) : Sim l Z K ρ own mn bytes ml R (pc, L, .int x :: S, A, c, n) (pc + 1, L, .int (x.toUInt32.toUInt16.toUInt32.toInt32) :: S, A, c, n) :=
  Sim.pure rfl fun p e s m args below meth cd T locs X hx hZ hby hown target k => XS.i2c X.here hx rfl (hb hby hd) rfl k
theorem s_idiv {x y : Int32} (hd : decode bytes pc = .ok (.idiv, 1)) (hy : y ≠ 0) : Sim l Z K ρ own mn bytes ml R (pc, L, .int y :: .int x :: S, A, c, n) (pc + 1, L, .int (x / y) :: S, A, c, n) :=
  Sim.pure rfl fun p e s m args below meth cd T locs X hx hZ hby hown target k => XS.idiv X.here hx rfl (hb hby hd) rfl hy k
theorem s_irem {x y : Int32} (hd : decode bytes pc = .ok (.irem, 1)) (hy : y ≠ 0) : Sim l Z K ρ own mn bytes ml R (pc, L, .int y :: .int x :: S, A, c, n) (pc + 1, L, .int (x % y) :: S, A, c, n) :=
  Sim.pure rfl fun p e s m args below meth cd T locs X hx hZ hby hown target k => iremM X hx rfl (hb hby hd) rfl hy k
theorem s_ldiv {x y : Int64} (hd : decode bytes pc = .ok (.ldiv, 1)) (hy : y ≠ 0) : Sim l Z K ρ own mn bytes ml R (pc, L, .long y :: .long x :: S, A, c, n) (pc + 1, L, .long (x / y) :: S, A, c, n) :=
  Sim.pure rfl fun p e s m args below meth cd T locs X hx hZ hby hown target k => XS.ldiv X.here hx rfl (hb hby hd) rfl hy k
theorem s_lrem {x y : Int64} (hd : decode bytes pc = .ok (.lrem, 1)) (hy : y ≠ 0) : Sim l Z K ρ own mn bytes ml R (pc, L, .long y :: .long x :: S, A, c, n) (pc + 1, L, .long (x % y) :: S, A, c, n) :=
  Sim.pure rfl fun p e s m args below meth cd T locs X hx hZ hby hown target k => XS.lrem X.here hx rfl (hb hby hd) rfl hy (by rw [lrem_mod x y]; exact k)
theorem s_dup {w : Value} (hd : decode bytes pc = .ok (.dup, 1)) (hc : w.category = 1) : Sim l Z K ρ own mn bytes ml R (pc, L, w :: S, A, c, n) (pc + 1, L, w :: w :: S, A, c, n) :=
  Sim.pure rfl fun p e s m args below meth cd T locs X hx hZ hby hown target k => XS.dup X.here hx rfl (hb hby hd) rfl ((ov_cat ρ w).trans hc) k
theorem s_pop {w : Value} (hd : decode bytes pc = .ok (.pop, 1)) (hc : w.category = 1) : Sim l Z K ρ own mn bytes ml R (pc, L, w :: S, A, c, n) (pc + 1, L, S, A, c, n) :=
  Sim.pure rfl fun p e s m args below meth cd T locs X hx hZ hby hown target k => XS.pop X.here hx rfl (hb hby hd) rfl ((ov_cat ρ w).trans hc) k
theorem s_dupX1 {w u : Value} (hd : decode bytes pc = .ok (.dup_x1, 1)) (hc : w.category = 1) (hc' : u.category = 1) : Sim l Z K ρ own mn bytes ml R (pc, L, w :: u :: S, A, c, n) (pc + 1, L, w :: u :: w :: S, A, c, n) :=
  Sim.pure rfl fun p e s m args below meth cd T locs X hx hZ hby hown target k => XS.dupX1 X.here hx rfl (hb hby hd) rfl ((ov_cat ρ w).trans hc) ((ov_cat ρ u).trans hc') k
theorem s_goto {o : Int} (hd : decode bytes pc = .ok (.goto o, 3)) (ho : 0 ≤ (pc : Int) + o) (hp : ((pc : Int) + o).toNat = pc') : Sim l Z K ρ own mn bytes ml R (pc, L, S, A, c, n) (pc', L, S, A, c, n) :=
  Sim.pure rfl fun p e s m args below meth cd T locs X hx hZ hby hown target k => XS.goto X.here hx rfl rfl (hb hby hd) ho hp k
theorem s_icmp_eq_t {o : Int} {x y : Int32} (hd : decode bytes pc = .ok (.if_icmp .eq o, 3)) (h : x = y) (ho : 0 ≤ (pc : Int) + o) (hp : ((pc : Int) + o).toNat = pc') : Sim l Z K ρ own mn bytes ml R (pc, L, .int y :: .int x :: S, A, c, n) (pc', L, S, A, c, n) :=
  Sim.pure rfl fun p e s m args below meth cd T locs X hx hZ hby hown target k => XS.icmpYes X.here hx rfl rfl (hb hby hd) rfl (teq h).1 ho hp k
theorem s_icmp_eq_f {o : Int} {x y : Int32} (hd : decode bytes pc = .ok (.if_icmp .eq o, 3)) (h : ¬ x = y) : Sim l Z K ρ own mn bytes ml R (pc, L, .int y :: .int x :: S, A, c, n) (pc + 3, L, S, A, c, n) :=
  Sim.pure rfl fun p e s m args below meth cd T locs X hx hZ hby hown target k => XS.icmpNo X.here hx rfl (hb hby hd) rfl (feq h).1 k
theorem s_if_eq_t {o : Int} {x : Int32} (hd : decode bytes pc = .ok (.ifCond .eq o, 3)) (h : x = 0) (ho : 0 ≤ (pc : Int) + o) (hp : ((pc : Int) + o).toNat = pc') : Sim l Z K ρ own mn bytes ml R (pc, L, .int x :: S, A, c, n) (pc', L, S, A, c, n) :=
  Sim.pure rfl fun p e s m args below meth cd T locs X hx hZ hby hown target k => XS.ifYes X.here hx rfl rfl (hb hby hd) rfl ((if0 _ _).trans (teq h).1) ho hp k
theorem s_if_eq_f {o : Int} {x : Int32} (hd : decode bytes pc = .ok (.ifCond .eq o, 3)) (h : ¬ x = 0) : Sim l Z K ρ own mn bytes ml R (pc, L, .int x :: S, A, c, n) (pc + 3, L, S, A, c, n) :=
  Sim.pure rfl fun p e s m args below meth cd T locs X hx hZ hby hown target k => XS.ifNo X.here hx rfl (hb hby hd) rfl ((if0 _ _).trans (feq h).1) k
theorem Ends.icmp_eq {o : Int} {x y : Int32} (hd : decode bytes pc = .ok (.if_icmp .eq o, 3)) (ho : 0 ≤ (pc : Int) + o) (hp : ((pc : Int) + o).toNat = pc') (ht : x = y → Ends l Z K ρ own mn bytes ml R ret (pc', L, S, A, c, n) v A') (hf : ¬ x = y → Ends l Z K ρ own mn bytes ml R ret (pc + 3, L, S, A, c, n) v A') : Ends l Z K ρ own mn bytes ml R ret (pc, L, .int y :: .int x :: S, A, c, n) v A' := by
  by_cases h : x = y
  · exact Ends.st (s_icmp_eq_t hd h ho hp) (ht h)
  · exact Ends.st (s_icmp_eq_f hd h) (hf h)
theorem Ends.if_eq {o : Int} {x : Int32} (hd : decode bytes pc = .ok (.ifCond .eq o, 3)) (ho : 0 ≤ (pc : Int) + o) (hp : ((pc : Int) + o).toNat = pc') (ht : x = 0 → Ends l Z K ρ own mn bytes ml R ret (pc', L, S, A, c, n) v A') (hf : ¬ x = 0 → Ends l Z K ρ own mn bytes ml R ret (pc + 3, L, S, A, c, n) v A') : Ends l Z K ρ own mn bytes ml R ret (pc, L, .int x :: S, A, c, n) v A' := by
  by_cases h : x = 0
  · exact Ends.st (s_if_eq_t hd h ho hp) (ht h)
  · exact Ends.st (s_if_eq_f hd h) (hf h)
theorem Sim.icmp_eq {q : oS} {o : Int} {x y : Int32} (hd : decode bytes pc = .ok (.if_icmp .eq o, 3)) (ho : 0 ≤ (pc : Int) + o) (hp : ((pc : Int) + o).toNat = pc') (ht : x = y → Sim l Z K ρ own mn bytes ml R (pc', L, S, A, c, n) q) (hf : ¬ x = y → Sim l Z K ρ own mn bytes ml R (pc + 3, L, S, A, c, n) q) : Sim l Z K ρ own mn bytes ml R (pc, L, .int y :: .int x :: S, A, c, n) q := by
  by_cases h : x = y
  · exact Sim.tr (s_icmp_eq_t hd h ho hp) (ht h)
  · exact Sim.tr (s_icmp_eq_f hd h) (hf h)
theorem Sim.if_eq {q : oS} {o : Int} {x : Int32} (hd : decode bytes pc = .ok (.ifCond .eq o, 3)) (ho : 0 ≤ (pc : Int) + o) (hp : ((pc : Int) + o).toNat = pc') (ht : x = 0 → Sim l Z K ρ own mn bytes ml R (pc', L, S, A, c, n) q) (hf : ¬ x = 0 → Sim l Z K ρ own mn bytes ml R (pc + 3, L, S, A, c, n) q) : Sim l Z K ρ own mn bytes ml R (pc, L, .int x :: S, A, c, n) q := by
  by_cases h : x = 0
  · exact Sim.tr (s_if_eq_t hd h ho hp) (ht h)
  · exact Sim.tr (s_if_eq_f hd h) (hf h)
theorem EndsE.icmp_eq {o : Int} {x y : Int32} (hd : decode bytes pc = .ok (.if_icmp .eq o, 3)) (ho : 0 ≤ (pc : Int) + o) (hp : ((pc : Int) + o).toNat = pc') (ht : x = y → EndsE l Z K ρ own mn bytes ml R ret (pc', L, S, A, c, n) v) (hf : ¬ x = y → EndsE l Z K ρ own mn bytes ml R ret (pc + 3, L, S, A, c, n) v) : EndsE l Z K ρ own mn bytes ml R ret (pc, L, .int y :: .int x :: S, A, c, n) v := by
  by_cases h : x = y
  · exact EndsE.st (s_icmp_eq_t hd h ho hp) (ht h)
  · exact EndsE.st (s_icmp_eq_f hd h) (hf h)
theorem EndsE.if_eq {o : Int} {x : Int32} (hd : decode bytes pc = .ok (.ifCond .eq o, 3)) (ho : 0 ≤ (pc : Int) + o) (hp : ((pc : Int) + o).toNat = pc') (ht : x = 0 → EndsE l Z K ρ own mn bytes ml R ret (pc', L, S, A, c, n) v) (hf : ¬ x = 0 → EndsE l Z K ρ own mn bytes ml R ret (pc + 3, L, S, A, c, n) v) : EndsE l Z K ρ own mn bytes ml R ret (pc, L, .int x :: S, A, c, n) v := by
  by_cases h : x = 0
  · exact EndsE.st (s_if_eq_t hd h ho hp) (ht h)
  · exact EndsE.st (s_if_eq_f hd h) (hf h)
theorem s_icmp_ne_t {o : Int} {x y : Int32} (hd : decode bytes pc = .ok (.if_icmp .ne o, 3)) (h : ¬ x = y) (ho : 0 ≤ (pc : Int) + o) (hp : ((pc : Int) + o).toNat = pc') : Sim l Z K ρ own mn bytes ml R (pc, L, .int y :: .int x :: S, A, c, n) (pc', L, S, A, c, n) :=
  Sim.pure rfl fun p e s m args below meth cd T locs X hx hZ hby hown target k => XS.icmpYes X.here hx rfl rfl (hb hby hd) rfl (feq h).2 ho hp k
theorem s_icmp_ne_f {o : Int} {x y : Int32} (hd : decode bytes pc = .ok (.if_icmp .ne o, 3)) (h : x = y) : Sim l Z K ρ own mn bytes ml R (pc, L, .int y :: .int x :: S, A, c, n) (pc + 3, L, S, A, c, n) :=
  Sim.pure rfl fun p e s m args below meth cd T locs X hx hZ hby hown target k => XS.icmpNo X.here hx rfl (hb hby hd) rfl (teq h).2 k
theorem s_if_ne_t {o : Int} {x : Int32} (hd : decode bytes pc = .ok (.ifCond .ne o, 3)) (h : ¬ x = 0) (ho : 0 ≤ (pc : Int) + o) (hp : ((pc : Int) + o).toNat = pc') : Sim l Z K ρ own mn bytes ml R (pc, L, .int x :: S, A, c, n) (pc', L, S, A, c, n) :=
  Sim.pure rfl fun p e s m args below meth cd T locs X hx hZ hby hown target k => XS.ifYes X.here hx rfl rfl (hb hby hd) rfl ((if0 _ _).trans (feq h).2) ho hp k
theorem s_if_ne_f {o : Int} {x : Int32} (hd : decode bytes pc = .ok (.ifCond .ne o, 3)) (h : x = 0) : Sim l Z K ρ own mn bytes ml R (pc, L, .int x :: S, A, c, n) (pc + 3, L, S, A, c, n) :=
  Sim.pure rfl fun p e s m args below meth cd T locs X hx hZ hby hown target k => XS.ifNo X.here hx rfl (hb hby hd) rfl ((if0 _ _).trans (teq h).2) k
theorem Ends.icmp_ne {o : Int} {x y : Int32} (hd : decode bytes pc = .ok (.if_icmp .ne o, 3)) (ho : 0 ≤ (pc : Int) + o) (hp : ((pc : Int) + o).toNat = pc') (ht : ¬ x = y → Ends l Z K ρ own mn bytes ml R ret (pc', L, S, A, c, n) v A') (hf : x = y → Ends l Z K ρ own mn bytes ml R ret (pc + 3, L, S, A, c, n) v A') : Ends l Z K ρ own mn bytes ml R ret (pc, L, .int y :: .int x :: S, A, c, n) v A' := by
  by_cases h : ¬ x = y
  · exact Ends.st (s_icmp_ne_t hd h ho hp) (ht h)
  · exact Ends.st (s_icmp_ne_f hd (Classical.not_not.mp h)) (hf (Classical.not_not.mp h))
theorem Ends.if_ne {o : Int} {x : Int32} (hd : decode bytes pc = .ok (.ifCond .ne o, 3)) (ho : 0 ≤ (pc : Int) + o) (hp : ((pc : Int) + o).toNat = pc') (ht : ¬ x = 0 → Ends l Z K ρ own mn bytes ml R ret (pc', L, S, A, c, n) v A') (hf : x = 0 → Ends l Z K ρ own mn bytes ml R ret (pc + 3, L, S, A, c, n) v A') : Ends l Z K ρ own mn bytes ml R ret (pc, L, .int x :: S, A, c, n) v A' := by
  by_cases h : ¬ x = 0
  · exact Ends.st (s_if_ne_t hd h ho hp) (ht h)
  · exact Ends.st (s_if_ne_f hd (Classical.not_not.mp h)) (hf (Classical.not_not.mp h))
theorem Sim.icmp_ne {q : oS} {o : Int} {x y : Int32} (hd : decode bytes pc = .ok (.if_icmp .ne o, 3)) (ho : 0 ≤ (pc : Int) + o) (hp : ((pc : Int) + o).toNat = pc') (ht : ¬ x = y → Sim l Z K ρ own mn bytes ml R (pc', L, S, A, c, n) q) (hf : x = y → Sim l Z K ρ own mn bytes ml R (pc + 3, L, S, A, c, n) q) : Sim l Z K ρ own mn bytes ml R (pc, L, .int y :: .int x :: S, A, c, n) q := by
  by_cases h : ¬ x = y
  · exact Sim.tr (s_icmp_ne_t hd h ho hp) (ht h)
  · exact Sim.tr (s_icmp_ne_f hd (Classical.not_not.mp h)) (hf (Classical.not_not.mp h))
theorem Sim.if_ne {q : oS} {o : Int} {x : Int32} (hd : decode bytes pc = .ok (.ifCond .ne o, 3)) (ho : 0 ≤ (pc : Int) + o) (hp : ((pc : Int) + o).toNat = pc') (ht : ¬ x = 0 → Sim l Z K ρ own mn bytes ml R (pc', L, S, A, c, n) q) (hf : x = 0 → Sim l Z K ρ own mn bytes ml R (pc + 3, L, S, A, c, n) q) : Sim l Z K ρ own mn bytes ml R (pc, L, .int x :: S, A, c, n) q := by
  by_cases h : ¬ x = 0
  · exact Sim.tr (s_if_ne_t hd h ho hp) (ht h)
  · exact Sim.tr (s_if_ne_f hd (Classical.not_not.mp h)) (hf (Classical.not_not.mp h))
theorem EndsE.icmp_ne {o : Int} {x y : Int32} (hd : decode bytes pc = .ok (.if_icmp .ne o, 3)) (ho : 0 ≤ (pc : Int) + o) (hp : ((pc : Int) + o).toNat = pc') (ht : ¬ x = y → EndsE l Z K ρ own mn bytes ml R ret (pc', L, S, A, c, n) v) (hf : x = y → EndsE l Z K ρ own mn bytes ml R ret (pc + 3, L, S, A, c, n) v) : EndsE l Z K ρ own mn bytes ml R ret (pc, L, .int y :: .int x :: S, A, c, n) v := by
  by_cases h : ¬ x = y
  · exact EndsE.st (s_icmp_ne_t hd h ho hp) (ht h)
  · exact EndsE.st (s_icmp_ne_f hd (Classical.not_not.mp h)) (hf (Classical.not_not.mp h))
theorem EndsE.if_ne {o : Int} {x : Int32} (hd : decode bytes pc = .ok (.ifCond .ne o, 3)) (ho : 0 ≤ (pc : Int) + o) (hp : ((pc : Int) + o).toNat = pc') (ht : ¬ x = 0 → EndsE l Z K ρ own mn bytes ml R ret (pc', L, S, A, c, n) v) (hf : x = 0 → EndsE l Z K ρ own mn bytes ml R ret (pc + 3, L, S, A, c, n) v) : EndsE l Z K ρ own mn bytes ml R ret (pc, L, .int x :: S, A, c, n) v := by
  by_cases h : ¬ x = 0
  · exact EndsE.st (s_if_ne_t hd h ho hp) (ht h)
  · exact EndsE.st (s_if_ne_f hd (Classical.not_not.mp h)) (hf (Classical.not_not.mp h))
theorem s_icmp_lt_t {o : Int} {x y : Int32} (hd : decode bytes pc = .ok (.if_icmp .lt o, 3)) (h : x < y) (ho : 0 ≤ (pc : Int) + o) (hp : ((pc : Int) + o).toNat = pc') : Sim l Z K ρ own mn bytes ml R (pc, L, .int y :: .int x :: S, A, c, n) (pc', L, S, A, c, n) :=
  Sim.pure rfl fun p e s m args below meth cd T locs X hx hZ hby hown target k => XS.icmpYes X.here hx rfl rfl (hb hby hd) rfl (tlt h).1 ho hp k
theorem s_icmp_lt_f {o : Int} {x y : Int32} (hd : decode bytes pc = .ok (.if_icmp .lt o, 3)) (h : ¬ x < y) : Sim l Z K ρ own mn bytes ml R (pc, L, .int y :: .int x :: S, A, c, n) (pc + 3, L, S, A, c, n) :=
  Sim.pure rfl fun p e s m args below meth cd T locs X hx hZ hby hown target k => XS.icmpNo X.here hx rfl (hb hby hd) rfl (flt h).1 k
theorem s_if_lt_t {o : Int} {x : Int32} (hd : decode bytes pc = .ok (.ifCond .lt o, 3)) (h : x < 0) (ho : 0 ≤ (pc : Int) + o) (hp : ((pc : Int) + o).toNat = pc') : Sim l Z K ρ own mn bytes ml R (pc, L, .int x :: S, A, c, n) (pc', L, S, A, c, n) :=
  Sim.pure rfl fun p e s m args below meth cd T locs X hx hZ hby hown target k => XS.ifYes X.here hx rfl rfl (hb hby hd) rfl ((if0 _ _).trans (tlt h).1) ho hp k
theorem s_if_lt_f {o : Int} {x : Int32} (hd : decode bytes pc = .ok (.ifCond .lt o, 3)) (h : ¬ x < 0) : Sim l Z K ρ own mn bytes ml R (pc, L, .int x :: S, A, c, n) (pc + 3, L, S, A, c, n) :=
  Sim.pure rfl fun p e s m args below meth cd T locs X hx hZ hby hown target k => XS.ifNo X.here hx rfl (hb hby hd) rfl ((if0 _ _).trans (flt h).1) k
theorem Ends.icmp_lt {o : Int} {x y : Int32} (hd : decode bytes pc = .ok (.if_icmp .lt o, 3)) (ho : 0 ≤ (pc : Int) + o) (hp : ((pc : Int) + o).toNat = pc') (ht : x < y → Ends l Z K ρ own mn bytes ml R ret (pc', L, S, A, c, n) v A') (hf : ¬ x < y → Ends l Z K ρ own mn bytes ml R ret (pc + 3, L, S, A, c, n) v A') : Ends l Z K ρ own mn bytes ml R ret (pc, L, .int y :: .int x :: S, A, c, n) v A' := by
  by_cases h : x < y
  · exact Ends.st (s_icmp_lt_t hd h ho hp) (ht h)
  · exact Ends.st (s_icmp_lt_f hd h) (hf h)
theorem Ends.if_lt {o : Int} {x : Int32} (hd : decode bytes pc = .ok (.ifCond .lt o, 3)) (ho : 0 ≤ (pc : Int) + o) (hp : ((pc : Int) + o).toNat = pc') (ht : x < 0 → Ends l Z K ρ own mn bytes ml R ret (pc', L, S, A, c, n) v A') (hf : ¬ x < 0 → Ends l Z K ρ own mn bytes ml R ret (pc + 3, L, S, A, c, n) v A') : Ends l Z K ρ own mn bytes ml R ret (pc, L, .int x :: S, A, c, n) v A' := by
  by_cases h : x < 0
  · exact Ends.st (s_if_lt_t hd h ho hp) (ht h)
  · exact Ends.st (s_if_lt_f hd h) (hf h)
theorem Sim.icmp_lt {q : oS} {o : Int} {x y : Int32} (hd : decode bytes pc = .ok (.if_icmp .lt o, 3)) (ho : 0 ≤ (pc : Int) + o) (hp : ((pc : Int) + o).toNat = pc') (ht : x < y → Sim l Z K ρ own mn bytes ml R (pc', L, S, A, c, n) q) (hf : ¬ x < y → Sim l Z K ρ own mn bytes ml R (pc + 3, L, S, A, c, n) q) : Sim l Z K ρ own mn bytes ml R (pc, L, .int y :: .int x :: S, A, c, n) q := by
  by_cases h : x < y
  · exact Sim.tr (s_icmp_lt_t hd h ho hp) (ht h)
  · exact Sim.tr (s_icmp_lt_f hd h) (hf h)
theorem Sim.if_lt {q : oS} {o : Int} {x : Int32} (hd : decode bytes pc = .ok (.ifCond .lt o, 3)) (ho : 0 ≤ (pc : Int) + o) (hp : ((pc : Int) + o).toNat = pc') (ht : x < 0 → Sim l Z K ρ own mn bytes ml R (pc', L, S, A, c, n) q) (hf : ¬ x < 0 → Sim l Z K ρ own mn bytes ml R (pc + 3, L, S, A, c, n) q) : Sim l Z K ρ own mn bytes ml R (pc, L, .int x :: S, A, c, n) q := by
  by_cases h : x < 0
  · exact Sim.tr (s_if_lt_t hd h ho hp) (ht h)
  · exact Sim.tr (s_if_lt_f hd h) (hf h)
theorem EndsE.icmp_lt {o : Int} {x y : Int32} (hd : decode bytes pc = .ok (.if_icmp .lt o, 3)) (ho : 0 ≤ (pc : Int) + o) (hp : ((pc : Int) + o).toNat = pc') (ht : x < y → EndsE l Z K ρ own mn bytes ml R ret (pc', L, S, A, c, n) v) (hf : ¬ x < y → EndsE l Z K ρ own mn bytes ml R ret (pc + 3, L, S, A, c, n) v) : EndsE l Z K ρ own mn bytes ml R ret (pc, L, .int y :: .int x :: S, A, c, n) v := by
  by_cases h : x < y
  · exact EndsE.st (s_icmp_lt_t hd h ho hp) (ht h)
  · exact EndsE.st (s_icmp_lt_f hd h) (hf h)
theorem EndsE.if_lt {o : Int} {x : Int32} (hd : decode bytes pc = .ok (.ifCond .lt o, 3)) (ho : 0 ≤ (pc : Int) + o) (hp : ((pc : Int) + o).toNat = pc') (ht : x < 0 → EndsE l Z K ρ own mn bytes ml R ret (pc', L, S, A, c, n) v) (hf : ¬ x < 0 → EndsE l Z K ρ own mn bytes ml R ret (pc + 3, L, S, A, c, n) v) : EndsE l Z K ρ own mn bytes ml R ret (pc, L, .int x :: S, A, c, n) v := by
  by_cases h : x < 0
  · exact EndsE.st (s_if_lt_t hd h ho hp) (ht h)
  · exact EndsE.st (s_if_lt_f hd h) (hf h)
theorem s_icmp_ge_t {o : Int} {x y : Int32} (hd : decode bytes pc = .ok (.if_icmp .ge o, 3)) (h : ¬ x < y) (ho : 0 ≤ (pc : Int) + o) (hp : ((pc : Int) + o).toNat = pc') : Sim l Z K ρ own mn bytes ml R (pc, L, .int y :: .int x :: S, A, c, n) (pc', L, S, A, c, n) :=
  Sim.pure rfl fun p e s m args below meth cd T locs X hx hZ hby hown target k => XS.icmpYes X.here hx rfl rfl (hb hby hd) rfl (flt h).2.1 ho hp k
theorem s_icmp_ge_f {o : Int} {x y : Int32} (hd : decode bytes pc = .ok (.if_icmp .ge o, 3)) (h : x < y) : Sim l Z K ρ own mn bytes ml R (pc, L, .int y :: .int x :: S, A, c, n) (pc + 3, L, S, A, c, n) :=
  Sim.pure rfl fun p e s m args below meth cd T locs X hx hZ hby hown target k => XS.icmpNo X.here hx rfl (hb hby hd) rfl (tlt h).2.1 k
theorem s_if_ge_t {o : Int} {x : Int32} (hd : decode bytes pc = .ok (.ifCond .ge o, 3)) (h : ¬ x < 0) (ho : 0 ≤ (pc : Int) + o) (hp : ((pc : Int) + o).toNat = pc') : Sim l Z K ρ own mn bytes ml R (pc, L, .int x :: S, A, c, n) (pc', L, S, A, c, n) :=
  Sim.pure rfl fun p e s m args below meth cd T locs X hx hZ hby hown target k => XS.ifYes X.here hx rfl rfl (hb hby hd) rfl ((if0 _ _).trans (flt h).2.1) ho hp k
theorem s_if_ge_f {o : Int} {x : Int32} (hd : decode bytes pc = .ok (.ifCond .ge o, 3)) (h : x < 0) : Sim l Z K ρ own mn bytes ml R (pc, L, .int x :: S, A, c, n) (pc + 3, L, S, A, c, n) :=
  Sim.pure rfl fun p e s m args below meth cd T locs X hx hZ hby hown target k => XS.ifNo X.here hx rfl (hb hby hd) rfl ((if0 _ _).trans (tlt h).2.1) k
theorem Ends.icmp_ge {o : Int} {x y : Int32} (hd : decode bytes pc = .ok (.if_icmp .ge o, 3)) (ho : 0 ≤ (pc : Int) + o) (hp : ((pc : Int) + o).toNat = pc') (ht : ¬ x < y → Ends l Z K ρ own mn bytes ml R ret (pc', L, S, A, c, n) v A') (hf : x < y → Ends l Z K ρ own mn bytes ml R ret (pc + 3, L, S, A, c, n) v A') : Ends l Z K ρ own mn bytes ml R ret (pc, L, .int y :: .int x :: S, A, c, n) v A' := by
  by_cases h : ¬ x < y
  · exact Ends.st (s_icmp_ge_t hd h ho hp) (ht h)
  · exact Ends.st (s_icmp_ge_f hd (Classical.not_not.mp h)) (hf (Classical.not_not.mp h))
theorem Ends.if_ge {o : Int} {x : Int32} (hd : decode bytes pc = .ok (.ifCond .ge o, 3)) (ho : 0 ≤ (pc : Int) + o) (hp : ((pc : Int) + o).toNat = pc') (ht : ¬ x < 0 → Ends l Z K ρ own mn bytes ml R ret (pc', L, S, A, c, n) v A') (hf : x < 0 → Ends l Z K ρ own mn bytes ml R ret (pc + 3, L, S, A, c, n) v A') : Ends l Z K ρ own mn bytes ml R ret (pc, L, .int x :: S, A, c, n) v A' := by
  by_cases h : ¬ x < 0
  · exact Ends.st (s_if_ge_t hd h ho hp) (ht h)
  · exact Ends.st (s_if_ge_f hd (Classical.not_not.mp h)) (hf (Classical.not_not.mp h))
theorem Sim.icmp_ge {q : oS} {o : Int} {x y : Int32} (hd : decode bytes pc = .ok (.if_icmp .ge o, 3)) (ho : 0 ≤ (pc : Int) + o) (hp : ((pc : Int) + o).toNat = pc') (ht : ¬ x < y → Sim l Z K ρ own mn bytes ml R (pc', L, S, A, c, n) q) (hf : x < y → Sim l Z K ρ own mn bytes ml R (pc + 3, L, S, A, c, n) q) : Sim l Z K ρ own mn bytes ml R (pc, L, .int y :: .int x :: S, A, c, n) q := by
  by_cases h : ¬ x < y
  · exact Sim.tr (s_icmp_ge_t hd h ho hp) (ht h)
  · exact Sim.tr (s_icmp_ge_f hd (Classical.not_not.mp h)) (hf (Classical.not_not.mp h))
theorem Sim.if_ge {q : oS} {o : Int} {x : Int32} (hd : decode bytes pc = .ok (.ifCond .ge o, 3)) (ho : 0 ≤ (pc : Int) + o) (hp : ((pc : Int) + o).toNat = pc') (ht : ¬ x < 0 → Sim l Z K ρ own mn bytes ml R (pc', L, S, A, c, n) q) (hf : x < 0 → Sim l Z K ρ own mn bytes ml R (pc + 3, L, S, A, c, n) q) : Sim l Z K ρ own mn bytes ml R (pc, L, .int x :: S, A, c, n) q := by
  by_cases h : ¬ x < 0
  · exact Sim.tr (s_if_ge_t hd h ho hp) (ht h)
  · exact Sim.tr (s_if_ge_f hd (Classical.not_not.mp h)) (hf (Classical.not_not.mp h))
theorem EndsE.icmp_ge {o : Int} {x y : Int32} (hd : decode bytes pc = .ok (.if_icmp .ge o, 3)) (ho : 0 ≤ (pc : Int) + o) (hp : ((pc : Int) + o).toNat = pc') (ht : ¬ x < y → EndsE l Z K ρ own mn bytes ml R ret (pc', L, S, A, c, n) v) (hf : x < y → EndsE l Z K ρ own mn bytes ml R ret (pc + 3, L, S, A, c, n) v) : EndsE l Z K ρ own mn bytes ml R ret (pc, L, .int y :: .int x :: S, A, c, n) v := by
  by_cases h : ¬ x < y
  · exact EndsE.st (s_icmp_ge_t hd h ho hp) (ht h)
  · exact EndsE.st (s_icmp_ge_f hd (Classical.not_not.mp h)) (hf (Classical.not_not.mp h))
theorem EndsE.if_ge {o : Int} {x : Int32} (hd : decode bytes pc = .ok (.ifCond .ge o, 3)) (ho : 0 ≤ (pc : Int) + o) (hp : ((pc : Int) + o).toNat = pc') (ht : ¬ x < 0 → EndsE l Z K ρ own mn bytes ml R ret (pc', L, S, A, c, n) v) (hf : x < 0 → EndsE l Z K ρ own mn bytes ml R ret (pc + 3, L, S, A, c, n) v) : EndsE l Z K ρ own mn bytes ml R ret (pc, L, .int x :: S, A, c, n) v := by
  by_cases h : ¬ x < 0
  · exact EndsE.st (s_if_ge_t hd h ho hp) (ht h)
  · exact EndsE.st (s_if_ge_f hd (Classical.not_not.mp h)) (hf (Classical.not_not.mp h))
theorem s_icmp_gt_t {o : Int} {x y : Int32} (hd : decode bytes pc = .ok (.if_icmp .gt o, 3)) (h : y < x) (ho : 0 ≤ (pc : Int) + o) (hp : ((pc : Int) + o).toNat = pc') : Sim l Z K ρ own mn bytes ml R (pc, L, .int y :: .int x :: S, A, c, n) (pc', L, S, A, c, n) :=
  Sim.pure rfl fun p e s m args below meth cd T locs X hx hZ hby hown target k => XS.icmpYes X.here hx rfl rfl (hb hby hd) rfl (tlt h).2.2.1 ho hp k
theorem s_icmp_gt_f {o : Int} {x y : Int32} (hd : decode bytes pc = .ok (.if_icmp .gt o, 3)) (h : ¬ y < x) : Sim l Z K ρ own mn bytes ml R (pc, L, .int y :: .int x :: S, A, c, n) (pc + 3, L, S, A, c, n) :=
  Sim.pure rfl fun p e s m args below meth cd T locs X hx hZ hby hown target k => XS.icmpNo X.here hx rfl (hb hby hd) rfl (flt h).2.2.1 k
theorem s_if_gt_t {o : Int} {x : Int32} (hd : decode bytes pc = .ok (.ifCond .gt o, 3)) (h : 0 < x) (ho : 0 ≤ (pc : Int) + o) (hp : ((pc : Int) + o).toNat = pc') : Sim l Z K ρ own mn bytes ml R (pc, L, .int x :: S, A, c, n) (pc', L, S, A, c, n) :=
  Sim.pure rfl fun p e s m args below meth cd T locs X hx hZ hby hown target k => XS.ifYes X.here hx rfl rfl (hb hby hd) rfl ((if0 _ _).trans (tlt h).2.2.1) ho hp k
theorem s_if_gt_f {o : Int} {x : Int32} (hd : decode bytes pc = .ok (.ifCond .gt o, 3)) (h : ¬ 0 < x) : Sim l Z K ρ own mn bytes ml R (pc, L, .int x :: S, A, c, n) (pc + 3, L, S, A, c, n) :=
  Sim.pure rfl fun p e s m args below meth cd T locs X hx hZ hby hown target k => XS.ifNo X.here hx rfl (hb hby hd) rfl ((if0 _ _).trans (flt h).2.2.1) k
theorem Ends.icmp_gt {o : Int} {x y : Int32} (hd : decode bytes pc = .ok (.if_icmp .gt o, 3)) (ho : 0 ≤ (pc : Int) + o) (hp : ((pc : Int) + o).toNat = pc') (ht : y < x → Ends l Z K ρ own mn bytes ml R ret (pc', L, S, A, c, n) v A') (hf : ¬ y < x → Ends l Z K ρ own mn bytes ml R ret (pc + 3, L, S, A, c, n) v A') : Ends l Z K ρ own mn bytes ml R ret (pc, L, .int y :: .int x :: S, A, c, n) v A' := by
  by_cases h : y < x
  · exact Ends.st (s_icmp_gt_t hd h ho hp) (ht h)
  · exact Ends.st (s_icmp_gt_f hd h) (hf h)
theorem Ends.if_gt {o : Int} {x : Int32} (hd : decode bytes pc = .ok (.ifCond .gt o, 3)) (ho : 0 ≤ (pc : Int) + o) (hp : ((pc : Int) + o).toNat = pc') (ht : 0 < x → Ends l Z K ρ own mn bytes ml R ret (pc', L, S, A, c, n) v A') (hf : ¬ 0 < x → Ends l Z K ρ own mn bytes ml R ret (pc + 3, L, S, A, c, n) v A') : Ends l Z K ρ own mn bytes ml R ret (pc, L, .int x :: S, A, c, n) v A' := by
  by_cases h : 0 < x
  · exact Ends.st (s_if_gt_t hd h ho hp) (ht h)
  · exact Ends.st (s_if_gt_f hd h) (hf h)
theorem Sim.icmp_gt {q : oS} {o : Int} {x y : Int32} (hd : decode bytes pc = .ok (.if_icmp .gt o, 3)) (ho : 0 ≤ (pc : Int) + o) (hp : ((pc : Int) + o).toNat = pc') (ht : y < x → Sim l Z K ρ own mn bytes ml R (pc', L, S, A, c, n) q) (hf : ¬ y < x → Sim l Z K ρ own mn bytes ml R (pc + 3, L, S, A, c, n) q) : Sim l Z K ρ own mn bytes ml R (pc, L, .int y :: .int x :: S, A, c, n) q := by
  by_cases h : y < x
  · exact Sim.tr (s_icmp_gt_t hd h ho hp) (ht h)
  · exact Sim.tr (s_icmp_gt_f hd h) (hf h)
theorem Sim.if_gt {q : oS} {o : Int} {x : Int32} (hd : decode bytes pc = .ok (.ifCond .gt o, 3)) (ho : 0 ≤ (pc : Int) + o) (hp : ((pc : Int) + o).toNat = pc') (ht : 0 < x → Sim l Z K ρ own mn bytes ml R (pc', L, S, A, c, n) q) (hf : ¬ 0 < x → Sim l Z K ρ own mn bytes ml R (pc + 3, L, S, A, c, n) q) : Sim l Z K ρ own mn bytes ml R (pc, L, .int x :: S, A, c, n) q := by
  by_cases h : 0 < x
  · exact Sim.tr (s_if_gt_t hd h ho hp) (ht h)
  · exact Sim.tr (s_if_gt_f hd h) (hf h)
theorem EndsE.icmp_gt {o : Int} {x y : Int32} (hd : decode bytes pc = .ok (.if_icmp .gt o, 3)) (ho : 0 ≤ (pc : Int) + o) (hp : ((pc : Int) + o).toNat = pc') (ht : y < x → EndsE l Z K ρ own mn bytes ml R ret (pc', L, S, A, c, n) v) (hf : ¬ y < x → EndsE l Z K ρ own mn bytes ml R ret (pc + 3, L, S, A, c, n) v) : EndsE l Z K ρ own mn bytes ml R ret (pc, L, .int y :: .int x :: S, A, c, n) v := by
  by_cases h : y < x
  · exact EndsE.st (s_icmp_gt_t hd h ho hp) (ht h)
  · exact EndsE.st (s_icmp_gt_f hd h) (hf h)
theorem EndsE.if_gt {o : Int} {x : Int32} (hd : decode bytes pc = .ok (.ifCond .gt o, 3)) (ho : 0 ≤ (pc : Int) + o) (hp : ((pc : Int) + o).toNat = pc') (ht : 0 < x → EndsE l Z K ρ own mn bytes ml R ret (pc', L, S, A, c, n) v) (hf : ¬ 0 < x → EndsE l Z K ρ own mn bytes ml R ret (pc + 3, L, S, A, c, n) v) : EndsE l Z K ρ own mn bytes ml R ret (pc, L, .int x :: S, A, c, n) v := by
  by_cases h : 0 < x
  · exact EndsE.st (s_if_gt_t hd h ho hp) (ht h)
  · exact EndsE.st (s_if_gt_f hd h) (hf h)
theorem s_icmp_le_t {o : Int} {x y : Int32} (hd : decode bytes pc = .ok (.if_icmp .le o, 3)) (h : ¬ y < x) (ho : 0 ≤ (pc : Int) + o) (hp : ((pc : Int) + o).toNat = pc') : Sim l Z K ρ own mn bytes ml R (pc, L, .int y :: .int x :: S, A, c, n) (pc', L, S, A, c, n) :=
  Sim.pure rfl fun p e s m args below meth cd T locs X hx hZ hby hown target k => XS.icmpYes X.here hx rfl rfl (hb hby hd) rfl (flt h).2.2.2 ho hp k
theorem s_icmp_le_f {o : Int} {x y : Int32} (hd : decode bytes pc = .ok (.if_icmp .le o, 3)) (h : y < x) : Sim l Z K ρ own mn bytes ml R (pc, L, .int y :: .int x :: S, A, c, n) (pc + 3, L, S, A, c, n) :=
  Sim.pure rfl fun p e s m args below meth cd T locs X hx hZ hby hown target k => XS.icmpNo X.here hx rfl (hb hby hd) rfl (tlt h).2.2.2 k
theorem s_if_le_t {o : Int} {x : Int32} (hd : decode bytes pc = .ok (.ifCond .le o, 3)) (h : ¬ 0 < x) (ho : 0 ≤ (pc : Int) + o) (hp : ((pc : Int) + o).toNat = pc') : Sim l Z K ρ own mn bytes ml R (pc, L, .int x :: S, A, c, n) (pc', L, S, A, c, n) :=
  Sim.pure rfl fun p e s m args below meth cd T locs X hx hZ hby hown target k => XS.ifYes X.here hx rfl rfl (hb hby hd) rfl ((if0 _ _).trans (flt h).2.2.2) ho hp k
theorem s_if_le_f {o : Int} {x : Int32} (hd : decode bytes pc = .ok (.ifCond .le o, 3)) (h : 0 < x) : Sim l Z K ρ own mn bytes ml R (pc, L, .int x :: S, A, c, n) (pc + 3, L, S, A, c, n) :=
  Sim.pure rfl fun p e s m args below meth cd T locs X hx hZ hby hown target k => XS.ifNo X.here hx rfl (hb hby hd) rfl ((if0 _ _).trans (tlt h).2.2.2) k
theorem Ends.icmp_le {o : Int} {x y : Int32} (hd : decode bytes pc = .ok (.if_icmp .le o, 3)) (ho : 0 ≤ (pc : Int) + o) (hp : ((pc : Int) + o).toNat = pc') (ht : ¬ y < x → Ends l Z K ρ own mn bytes ml R ret (pc', L, S, A, c, n) v A') (hf : y < x → Ends l Z K ρ own mn bytes ml R ret (pc + 3, L, S, A, c, n) v A') : Ends l Z K ρ own mn bytes ml R ret (pc, L, .int y :: .int x :: S, A, c, n) v A' := by
  by_cases h : ¬ y < x
  · exact Ends.st (s_icmp_le_t hd h ho hp) (ht h)
  · exact Ends.st (s_icmp_le_f hd (Classical.not_not.mp h)) (hf (Classical.not_not.mp h))
theorem Ends.if_le {o : Int} {x : Int32} (hd : decode bytes pc = .ok (.ifCond .le o, 3)) (ho : 0 ≤ (pc : Int) + o) (hp : ((pc : Int) + o).toNat = pc') (ht : ¬ 0 < x → Ends l Z K ρ own mn bytes ml R ret (pc', L, S, A, c, n) v A') (hf : 0 < x → Ends l Z K ρ own mn bytes ml R ret (pc + 3, L, S, A, c, n) v A') : Ends l Z K ρ own mn bytes ml R ret (pc, L, .int x :: S, A, c, n) v A' := by
  by_cases h : ¬ 0 < x
  · exact Ends.st (s_if_le_t hd h ho hp) (ht h)
  · exact Ends.st (s_if_le_f hd (Classical.not_not.mp h)) (hf (Classical.not_not.mp h))
theorem Sim.icmp_le {q : oS} {o : Int} {x y : Int32} (hd : decode bytes pc = .ok (.if_icmp .le o, 3)) (ho : 0 ≤ (pc : Int) + o) (hp : ((pc : Int) + o).toNat = pc') (ht : ¬ y < x → Sim l Z K ρ own mn bytes ml R (pc', L, S, A, c, n) q) (hf : y < x → Sim l Z K ρ own mn bytes ml R (pc + 3, L, S, A, c, n) q) : Sim l Z K ρ own mn bytes ml R (pc, L, .int y :: .int x :: S, A, c, n) q := by
  by_cases h : ¬ y < x
  · exact Sim.tr (s_icmp_le_t hd h ho hp) (ht h)
  · exact Sim.tr (s_icmp_le_f hd (Classical.not_not.mp h)) (hf (Classical.not_not.mp h))
theorem Sim.if_le {q : oS} {o : Int} {x : Int32} (hd : decode bytes pc = .ok (.ifCond .le o, 3)) (ho : 0 ≤ (pc : Int) + o) (hp : ((pc : Int) + o).toNat = pc') (ht : ¬ 0 < x → Sim l Z K ρ own mn bytes ml R (pc', L, S, A, c, n) q) (hf : 0 < x → Sim l Z K ρ own mn bytes ml R (pc + 3, L, S, A, c, n) q) : Sim l Z K ρ own mn bytes ml R (pc, L, .int x :: S, A, c, n) q := by
  by_cases h : ¬ 0 < x
  · exact Sim.tr (s_if_le_t hd h ho hp) (ht h)
  · exact Sim.tr (s_if_le_f hd (Classical.not_not.mp h)) (hf (Classical.not_not.mp h))
theorem EndsE.icmp_le {o : Int} {x y : Int32} (hd : decode bytes pc = .ok (.if_icmp .le o, 3)) (ho : 0 ≤ (pc : Int) + o) (hp : ((pc : Int) + o).toNat = pc') (ht : ¬ y < x → EndsE l Z K ρ own mn bytes ml R ret (pc', L, S, A, c, n) v) (hf : y < x → EndsE l Z K ρ own mn bytes ml R ret (pc + 3, L, S, A, c, n) v) : EndsE l Z K ρ own mn bytes ml R ret (pc, L, .int y :: .int x :: S, A, c, n) v := by
  by_cases h : ¬ y < x
  · exact EndsE.st (s_icmp_le_t hd h ho hp) (ht h)
  · exact EndsE.st (s_icmp_le_f hd (Classical.not_not.mp h)) (hf (Classical.not_not.mp h))
theorem EndsE.if_le {o : Int} {x : Int32} (hd : decode bytes pc = .ok (.ifCond .le o, 3)) (ho : 0 ≤ (pc : Int) + o) (hp : ((pc : Int) + o).toNat = pc') (ht : ¬ 0 < x → EndsE l Z K ρ own mn bytes ml R ret (pc', L, S, A, c, n) v) (hf : 0 < x → EndsE l Z K ρ own mn bytes ml R ret (pc + 3, L, S, A, c, n) v) : EndsE l Z K ρ own mn bytes ml R ret (pc, L, .int x :: S, A, c, n) v := by
  by_cases h : ¬ 0 < x
  · exact EndsE.st (s_if_le_t hd h ho hp) (ht h)
  · exact EndsE.st (s_if_le_f hd (Classical.not_not.mp h)) (hf (Classical.not_not.mp h))
theorem s_ifnull_t {o : Int} (hd : decode bytes pc = .ok (.ifnull o, 3)) (ho : 0 ≤ (pc : Int) + o) (hp : ((pc : Int) + o).toNat = pc') : Sim l Z K ρ own mn bytes ml R (pc, L, .null :: S, A, c, n) (pc', L, S, A, c, n) :=
  Sim.pure rfl fun p e s m args below meth cd T locs X hx hZ hby hown target k => XS.ifnullYes X.here hx rfl rfl (hb hby hd) rfl ho hp k
theorem s_ifnull_f {o : Int} {j : Addr} (hd : decode bytes pc = .ok (.ifnull o, 3)) : Sim l Z K ρ own mn bytes ml R (pc, L, .ref j :: S, A, c, n) (pc + 3, L, S, A, c, n) :=
  Sim.pure rfl fun p e s m args below meth cd T locs X hx hZ hby hown target k => XS.ifnullNo X.here hx rfl (hb hby hd) rfl k
theorem oRep.arr {h : Heap} {j : Nat} {ty : FieldType} {vs : List Value} (H : oRep Z K ρ h A) (hA : A[j]? = some (.inr (ty, vs))) : (vs.length < 2 ^ 31 ∧ ∀ w ∈ vs, fits ty (ov ρ w) = true) ∧ ∃ cl : Cell, Arr Z h (ρ.1 j) cl ty ∧ cl.slots = (vs.map (ov ρ)).toArray := H.2 j _ hA
theorem oin {cl : Cell} {vs : List Value} {i : Int32} {w : Value} (e : cl.slots = (vs.map (ov ρ)).toArray) (h0 : ¬ i < 0) (hv : vs[i.toNatClampNeg]? = some w) : ¬ (i < 0 ∨ cl.slots.size ≤ i.toNatClampNeg) ∧ cl.slots[i.toNatClampNeg]? = some (ov ρ w) := by
  have hi := (List.getElem?_eq_some_iff.mp hv).1
  refine ⟨fun q => q.elim h0 fun q => ?_, ?_⟩
  · rw [e] at q; simp at q; omega
  · rw [e]; simp [hv]
theorem olen {vs : List Value} (h : vs.length < 2 ^ 31) {cl : Cell} (e : cl.slots = (vs.map (ov ρ)).toArray) : cl.slots.size.toInt32 = Int32.ofNat vs.length := by
  rw [e]; simp [Nat.toInt32]
theorem s_arraylength {j : Addr} {ty : FieldType} {vs : List Value} (hd : decode bytes pc = .ok (.arraylength, 1)) (hA : A[j]? = some (.inr (ty, vs))) : Sim l Z K ρ own mn bytes ml R (pc, L, .ref j :: S, A, c, n) (pc + 1, L, .int (Int32.ofNat vs.length) :: S, A, c, n) :=
  fun p e s m args below meth cd T locs X hx hZ hby hml hown hnm hR hF hL => by
    obtain ⟨h1, cl, h2, h3⟩ := hR.arr hA
    exact ⟨T, locs, X, hR, hF, hL, fun target k => X.arraylength hx h2.1 (State.isArrayOf_alike hZ.alike h2.2.1) (g := oF ρ m (pc, L, .ref j :: S, A, c, n)) rfl rfl (hb hby hd) target (by rw [olen h1.1 h3]; exact k)⟩
theorem s_iaload {j : Addr} {vs : List Value} {i : Int32} {w : Value} (hd : decode bytes pc = .ok (.iaload, 1)) (hA : A[j]? = some (.inr (.int, vs))) (h0 : ¬ i < 0) (hv : vs[i.toNatClampNeg]? = some w) : Sim l Z K ρ own mn bytes ml R (pc, L, .int i :: .ref j :: S, A, c, n) (pc + 1, L, w :: S, A, c, n) :=
  fun p e s m args below meth cd T locs X hx hZ hby hml hown hnm hR hF hL => by
    obtain ⟨h1, cl, h2, h3⟩ := hR.arr hA
    obtain ⟨q1, q2⟩ := oin h3 h0 hv
    exact ⟨T, locs, X, hR, hF, hL, fun target k => X.iaload hx h2.1 (State.isArrayOf_alike hZ.alike h2.2.1) h2.2.2 q1 q2 (g := oF ρ m (pc, L, .int i :: .ref j :: S, A, c, n)) rfl rfl (hb hby hd) target k⟩
theorem s_laload {j : Addr} {vs : List Value} {i : Int32} {w : Value} (hd : decode bytes pc = .ok (.laload, 1)) (hA : A[j]? = some (.inr (.long, vs))) (h0 : ¬ i < 0) (hv : vs[i.toNatClampNeg]? = some w) : Sim l Z K ρ own mn bytes ml R (pc, L, .int i :: .ref j :: S, A, c, n) (pc + 1, L, w :: S, A, c, n) :=
  fun p e s m args below meth cd T locs X hx hZ hby hml hown hnm hR hF hL => by
    obtain ⟨h1, cl, h2, h3⟩ := hR.arr hA
    obtain ⟨q1, q2⟩ := oin h3 h0 hv
    exact ⟨T, locs, X, hR, hF, hL, fun target k => X.laload hx h2.1 (State.isArrayOf_alike hZ.alike h2.2.1) h2.2.2 q1 q2 (g := oF ρ m (pc, L, .int i :: .ref j :: S, A, c, n)) rfl rfl (hb hby hd) target k⟩
theorem s_baload {j : Addr} {vs : List Value} {i : Int32} {w : Value} (hd : decode bytes pc = .ok (.baload, 1)) (hA : A[j]? = some (.inr (.byte, vs))) (h0 : ¬ i < 0) (hv : vs[i.toNatClampNeg]? = some w) : Sim l Z K ρ own mn bytes ml R (pc, L, .int i :: .ref j :: S, A, c, n) (pc + 1, L, w :: S, A, c, n) :=
  fun p e s m args below meth cd T locs X hx hZ hby hml hown hnm hR hF hL => by
    obtain ⟨h1, cl, h2, h3⟩ := hR.arr hA
    obtain ⟨q1, q2⟩ := oin h3 h0 hv
    exact ⟨T, locs, X, hR, hF, hL, fun target k => X.baloadBytes hx h2.1 (State.isArrayOf_alike hZ.alike h2.2.1) h2.2.2 q1 q2 (g := oF ρ m (pc, L, .int i :: .ref j :: S, A, c, n)) rfl rfl (hb hby hd) target k⟩
theorem s_caload {j : Addr} {vs : List Value} {i : Int32} {w : Value} (hd : decode bytes pc = .ok (.caload, 1)) (hA : A[j]? = some (.inr (.char, vs))) (h0 : ¬ i < 0) (hv : vs[i.toNatClampNeg]? = some w) : Sim l Z K ρ own mn bytes ml R (pc, L, .int i :: .ref j :: S, A, c, n) (pc + 1, L, w :: S, A, c, n) :=
  fun p e s m args below meth cd T locs X hx hZ hby hml hown hnm hR hF hL => by
    obtain ⟨h1, cl, h2, h3⟩ := hR.arr hA
    obtain ⟨q1, q2⟩ := oin h3 h0 hv
    exact ⟨T, locs, X, hR, hF, hL, fun target k => X.caload hx h2.1 (State.isArrayOf_alike hZ.alike h2.2.1) h2.2.2 q1 q2 (g := oF ρ m (pc, L, .int i :: .ref j :: S, A, c, n)) rfl rfl (hb hby hd) target k⟩
theorem s_aaload {j : Addr} {vs : List Value} {i : Int32} {w : Value} {ty : FieldType} (hd : decode bytes pc = .ok (.aaload, 1)) (hA : A[j]? = some (.inr (ty, vs))) (hty : ty.isReference = true) (h0 : ¬ i < 0) (hv : vs[i.toNatClampNeg]? = some w) : Sim l Z K ρ own mn bytes ml R (pc, L, .int i :: .ref j :: S, A, c, n) (pc + 1, L, w :: S, A, c, n) :=
  fun p e s m args below meth cd T locs X hx hZ hby hml hown hnm hR hF hL => by
    obtain ⟨h1, cl, h2, h3⟩ := hR.arr hA
    obtain ⟨q1, q2⟩ := oin h3 h0 hv
    exact ⟨T, locs, X, hR, hF, hL, fun target k => X.aaload hx h2.1 (State.isArrayOf_alike hZ.alike h2.2.1) hty h2.2.2 q1 q2 (g := oF ρ m (pc, L, .int i :: .ref j :: S, A, c, n)) rfl rfl (hb hby hd) target k⟩
theorem oRep.arrSet {h h' : Heap} {j : Nat} {ty : FieldType} {vs : List Value} {i : Nat} {w : Value} (H : oRep Z K ρ h A) (hA : A[j]? = some (.inr (ty, vs))) (hft : fits ty (ov ρ w) = true) (W : Wr h h' (ρ.1 j) i (ov ρ w)) : oRep Z K ρ h' (A.set j (.inr (ty, vs.set i w))) := by
  obtain ⟨h1, cl, h2, h3⟩ := H.arr hA
  refine H.wr W ⟨⟨by simpa using h1.1, fun u hu => (List.mem_or_eq_of_mem_set hu).elim (h1.2 u) (fun q => q ▸ hft)⟩, cl.setSlot i (ov ρ w), h2.same W, ?_⟩
  show cl.slots.setIfInBounds i (ov ρ w) = _
  rw [h3]; simp
theorem s_iastore {j : Addr} {vs : List Value} {i : Int32} {x : Int32} (hd : decode bytes pc = .ok (.iastore, 1)) (hA : A[j]? = some (.inr (.int, vs))) (h0 : ¬ i < 0) (hi : i.toNatClampNeg < vs.length) (hA' : A.set j (.inr (.int, vs.set i.toNatClampNeg (.int x))) = A') : Sim l Z K ρ own mn bytes ml R (pc, L, .int x :: .int i :: .ref j :: S, A, c, n) (pc + 1, L, S, A', c, n) :=
  fun p e s m args below meth cd T locs X hx hZ hby hml hown hnm hR hF hL => by
    obtain ⟨h1, cl, h2, h3⟩ := hR.arr hA
    have q1 : ¬ (i < 0 ∨ cl.slots.size ≤ i.toNatClampNeg) := fun q => q.elim h0 fun q => by rw [h3] at q; simp at q; omega
    obtain ⟨T', h', X', e', W, st⟩ := stI X hx hZ rfl h2 q1 (g := oF ρ m (pc, L, .int x :: .int i :: .ref j :: S, A, c, n)) rfl rfl (hb hby hd)
    subst e' hA'
    exact ⟨T', _, X', hR.arrSet (w := .int x) hA rfl W, Fr.snoc X' hF (hR.ge j), hL, st⟩
theorem s_lastore {j : Addr} {vs : List Value} {i : Int32} {x : Int64} (hd : decode bytes pc = .ok (.lastore, 1)) (hA : A[j]? = some (.inr (.long, vs))) (h0 : ¬ i < 0) (hi : i.toNatClampNeg < vs.length) (hA' : A.set j (.inr (.long, vs.set i.toNatClampNeg (.long x))) = A') : Sim l Z K ρ own mn bytes ml R (pc, L, .long x :: .int i :: .ref j :: S, A, c, n) (pc + 1, L, S, A', c, n) :=
  fun p e s m args below meth cd T locs X hx hZ hby hml hown hnm hR hF hL => by
    obtain ⟨h1, cl, h2, h3⟩ := hR.arr hA
    have q1 : ¬ (i < 0 ∨ cl.slots.size ≤ i.toNatClampNeg) := fun q => q.elim h0 fun q => by rw [h3] at q; simp at q; omega
    obtain ⟨T', h', X', e', W, st⟩ := stJ X hx hZ rfl h2 q1 (g := oF ρ m (pc, L, .long x :: .int i :: .ref j :: S, A, c, n)) rfl rfl (hb hby hd)
    subst e' hA'
    exact ⟨T', _, X', hR.arrSet (w := .long x) hA rfl W, Fr.snoc X' hF (hR.ge j), hL, st⟩
theorem s_bastore {j : Addr} {vs : List Value} {i : Int32} {x : Int32} (hd : decode bytes pc = .ok (.bastore, 1)) (hA : A[j]? = some (.inr (.byte, vs))) (h0 : ¬ i < 0) (hi : i.toNatClampNeg < vs.length) (hA' : A.set j (.inr (.byte, vs.set i.toNatClampNeg (.int x.toInt8.toInt32))) = A') : Sim l Z K ρ own mn bytes ml R (pc, L, .int x :: .int i :: .ref j :: S, A, c, n) (pc + 1, L, S, A', c, n) :=
  fun p e s m args below meth cd T locs X hx hZ hby hml hown hnm hR hF hL => by
    obtain ⟨h1, cl, h2, h3⟩ := hR.arr hA
    have q1 : ¬ (i < 0 ∨ cl.slots.size ≤ i.toNatClampNeg) := fun q => q.elim h0 fun q => by rw [h3] at q; simp at q; omega
    obtain ⟨T', h', X', e', W, st⟩ := stB X hx hZ rfl h2 q1 (g := oF ρ m (pc, L, .int x :: .int i :: .ref j :: S, A, c, n)) rfl rfl (hb hby hd)
    subst e' hA'
    exact ⟨T', _, X', hR.arrSet (w := .int x.toInt8.toInt32) hA (fits_nar_byte x) W, Fr.snoc X' hF (hR.ge j), hL, st⟩
theorem s_castore {j : Addr} {vs : List Value} {i : Int32} {x : Int32} (hd : decode bytes pc = .ok (.castore, 1)) (hA : A[j]? = some (.inr (.char, vs))) (h0 : ¬ i < 0) (hi : i.toNatClampNeg < vs.length) (hA' : A.set j (.inr (.char, vs.set i.toNatClampNeg (.int (nar .char x)))) = A') : Sim l Z K ρ own mn bytes ml R (pc, L, .int x :: .int i :: .ref j :: S, A, c, n) (pc + 1, L, S, A', c, n) :=
  fun p e s m args below meth cd T locs X hx hZ hby hml hown hnm hR hF hL => by
    obtain ⟨h1, cl, h2, h3⟩ := hR.arr hA
    have q1 : ¬ (i < 0 ∨ cl.slots.size ≤ i.toNatClampNeg) := fun q => q.elim h0 fun q => by rw [h3] at q; simp at q; omega
    obtain ⟨T', h', X', e', W, st⟩ := stC X hx hZ rfl h2 q1 (g := oF ρ m (pc, L, .int x :: .int i :: .ref j :: S, A, c, n)) rfl rfl (hb hby hd)
    subst e' hA'
    exact ⟨T', _, X', hR.arrSet (w := .int (nar .char x)) hA (fits_nar_char x) W, Fr.snoc X' hF (hR.ge j), hL, st⟩
theorem oRep.obj {h : Heap} {j cid : Nat} {vs : List Value} (H : oRep Z K ρ h A) (hA : A[j]? = some (.inl (cid, vs))) : Exa Z h (ρ.1 j) (K cid).1 ∧ ∀ (i : Nat) (f : String × String × String) (v : Value), (K cid).2[i]? = some f → vs[i]? = some v → Fld Z h (ρ.1 j) f.1 f.2.1 f.2.2 (ov ρ v) := H.2 j _ hA
theorem s_getfield {j : Addr} {cid i x : Nat} {vs : List Value} {w : Value} {O nm d : String} (wl : (Jvm.Cond.fieldLink own x O nm d).before a0 Z = true) (hf : (K cid).2[i]? = some (O, nm, d)) (hd : decode bytes pc = .ok (.getfield x, 3)) (hA : A[j]? = some (.inl (cid, vs))) (hv : vs[i]? = some w) : Sim l Z K ρ own mn bytes ml R (pc, L, .ref j :: S, A, c, n) (pc + 3, L, w :: S, A, c, n) :=
  fun p e s m args below meth cd T locs X hx hZ hby hml hown hnm hR hF hL => by
    have F := (hR.obj hA).2 i _ _ hf hv
    obtain ⟨T', X', e', st⟩ := getF X hx hZ hown (host := "") (Or.inl wl) Via.refl rfl F (g := oF ρ m (pc, L, .ref j :: S, A, c, n)) rfl rfl (hb hby hd)
    exact ⟨T', locs, X', by rw [e']; exact hR, hF, hL, st⟩
theorem oRep.fldSet {h h' : Heap} {j cid i : Nat} {vs : List Value} {f : String × String × String} {w old : Value} (H : oRep Z K ρ h A) (hK : oKOk Z a0 K cid) (hA : A[j]? = some (.inl (cid, vs))) (hf : (K cid).2[i]? = some f) (ho : vs[i]? = some old) (W : Wr h h' (ρ.1 j) (Jvm.RoadKit.slotOf Z f.1 f.2.1 f.2.2) (ov ρ w)) : oRep Z K ρ h' (A.set j (.inl (cid, vs.set i w))) := by
  obtain ⟨h1, h2⟩ := H.obj hA
  refine H.wr W ⟨h1.wr W, fun k g u hg hu => ?_⟩
  by_cases q : k = i
  · subst q
    have hg' : (K cid).2[k]? = some g := hg
    rw [hf] at hg'; cases hg'
    have hu' : (vs.set k w)[k]? = some u := hu
    rw [List.getElem?_set_self (List.getElem?_eq_some_iff.mp ho).1] at hu'; cases hu'
    exact (h2 k f old hf ho).same W
  · have hu' : (vs.set i w)[k]? = some u := hu
    rw [List.getElem?_set_ne (Ne.symm q)] at hu'
    have hg' : (K cid).2[k]? = some g := hg
    obtain ⟨l1, t1, p1⟩ := hK.1.at k g hg'
    obtain ⟨l2, t2, p2⟩ := hK.1.at i f hf
    exact (h2 k g u hg' hu').other W (Or.inr (slot_ne l1 l2 (hK.2 k i g f hg' hf q) p1 p2))
theorem s_putfield {j : Addr} {cid i x kk : Nat} {vs : List Value} {w old : Value} {O nm d : String} {ty : FieldType} (wl : (Jvm.Cond.fieldLink own x O nm d).before a0 Z = true) (hK : oKOk Z a0 K cid) (hf : (K cid).2[i]? = some (O, nm, d))
    (lay : (Jvm.Cond.lays (K cid).1 O nm d).before a0 Z = true ∨ ((Jvm.Cond.laysFinal (K cid).1 O nm d).before a0 Z = true ∧ own = O ∧ mn = "<init>")) (wi : (Jvm.Cond.instantiable (K cid).1 kk).before a0 Z = true) (hty : parseFieldDescriptor d = some ty) (hn : narrow ty (ov ρ w) = ov ρ w) (hft : fits ty (ov ρ w) = true)
    (hd : decode bytes pc = .ok (.putfield x, 3)) (hA : A[j]? = some (.inl (cid, vs))) (ho : vs[i]? = some old) (hA' : A.set j (.inl (cid, vs.set i w)) = A') : Sim l Z K ρ own mn bytes ml R (pc, L, w :: .ref j :: S, A, c, n) (pc + 3, L, S, A', c, n) :=
  fun p e s m args below meth cd T locs X hx hZ hby hml hown hnm hR hF hL => by
    have F := (hR.obj hA).2 i _ _ hf ho
    obtain ⟨T', h', X', e', W, st⟩ := putF X hx hZ hown (host := "") (Or.inl wl) Via.refl rfl F (hR.obj hA).1 (lay.imp id fun q => ⟨q.1, q.2.1, hnm.trans q.2.2⟩) wi hty hn hft (g := oF ρ m (pc, L, w :: .ref j :: S, A, c, n)) rfl rfl (hb hby hd)
    subst e' hA'
    exact ⟨T', _, X', hR.fldSet hK hA hf ho W, Fr.snoc X' hF (hR.ge j), hL, st⟩
theorem s_putfieldZ {j : Addr} {cid i x kk : Nat} {vs : List Value} {u u' : Int32} {old : Value} {O nm : String} (wl : (Jvm.Cond.fieldLink own x O nm "Z").before a0 Z = true) (hK : oKOk Z a0 K cid) (hf : (K cid).2[i]? = some (O, nm, "Z"))
    (lay : (Jvm.Cond.lays (K cid).1 O nm "Z").before a0 Z = true ∨ ((Jvm.Cond.laysFinal (K cid).1 O nm "Z").before a0 Z = true ∧ own = O ∧ mn = "<init>")) (wi : (Jvm.Cond.instantiable (K cid).1 kk).before a0 Z = true) (hu : u &&& 1 = u')
    (hd : decode bytes pc = .ok (.putfield x, 3)) (hA : A[j]? = some (.inl (cid, vs))) (ho : vs[i]? = some old) (hA' : A.set j (.inl (cid, vs.set i (.int u'))) = A') : Sim l Z K ρ own mn bytes ml R (pc, L, .int u :: .ref j :: S, A, c, n) (pc + 3, L, S, A', c, n) :=
  fun p e s m args below meth cd T locs X hx hZ hby hml hown hnm hR hF hL => by
    have F := (hR.obj hA).2 i _ _ hf ho
    obtain ⟨T', h', X', e', W, st⟩ := putFN X hx hZ hown wl Via.refl rfl F (hR.obj hA).1 (lay.imp id fun q => ⟨q.1, q.2.1, hnm.trans q.2.2⟩) wi (ty := .boolean) (v' := .int (nar .boolean u)) (by decide) rfl (fits_nar_bool u) (g := oF ρ m (pc, L, .int u :: .ref j :: S, A, c, n)) rfl rfl (hb hby hd)
    subst e' hA' hu
    exact ⟨T', _, X', hR.fldSet (w := .int (u &&& 1)) hK hA hf ho W, Fr.snoc X' hF (hR.ge j), hL, st⟩
theorem opush_ext (h : Heap) (cl : Cell) : Ext h (h.push cl) := ⟨by simp, fun a d q => by rw [Array.getElem?_push_lt (Array.getElem?_eq_some_iff.mp q).1]; exact (Array.getElem?_eq_getElem _).symm.trans q⟩
theorem opush_at (h : Heap) (cl : Cell) : (h.push cl)[h.size]? = some cl := by simp
theorem s_new {cid x sz j : Nat} {vs : List Value} (wl : (Jvm.Cond.classLink own x (K cid).1).before a0 Z = true) (wi : (Jvm.Cond.instantiable (K cid).1 sz).before a0 Z = true) (wz : (Jvm.Cond.initialized (K cid).1).before a0 Z = true) (hK : oKOk Z a0 K cid) (hv : oDflt (K cid).2 vs)
    (hd : decode bytes pc = .ok (.new x, 3)) (hj : A.length = j) (hc : c + 1 ≤ R.cells) (hn : n + sz ≤ R.slots) (hA' : A ++ [.inl (cid, vs)] = A') : Sim l Z K ρ own mn bytes ml R (pc, L, S, A, c, n) (pc + 3, L, .ref j :: S, A', c + 1, n + sz) :=
  fun p e s m args below meth cd T locs X hx hZ hby hml hown hnm hR hF hL => by
    obtain ⟨vm', cC, kC, h1, h2, h3, h4, X', st⟩ := X.newCold hx hown (mv hZ wl) (mv hZ wi) (mv hZ wz) (g := oF ρ m (pc, L, S, A, c, n)) rfl (hb hby hd) hc hn
    subst hA' hj
    rw [hZ.alike.findClass] at h1
    obtain ⟨kZ, z1, -⟩ := Vm.findClass_spec h1
    obtain ⟨k', z2, z3⟩ := hZ.alike.2.2 _ _ z1
    cases h2.symm.trans z2
    have ei : kC.instanceTypes = kZ.instanceTypes := by rw [z3]
    have hN := opush_at T.heap { cls := cC, slots := kC.instanceTypes.map defaultValue, vm := .none }
    have hrep := hR.push (opush_ext T.heap { cls := cC, slots := kC.instanceTypes.map defaultValue, vm := .none }) (by simp) (c := .inl (cid, vs)) ⟨⟨_, kZ, hN, h1, z1, rfl, fun _ => by simp [ei]⟩, fun i f w hf hw => by
      obtain ⟨t, ht, rfl⟩ := hv.at i f w hf hw
      obtain ⟨lf, -⟩ := hK.1.at i f hf
      obtain ⟨c1, k1, cf, kf, i', f', a1, a2, a3, a4, a5, a6, -⟩ := lf.spec
      cases h1.symm.trans a1
      cases z1.symm.trans a2
      rw [ov_dflt]
      exact ⟨_, cf, kf, i', f', hN, a3, a4, by simp, rfl, a5, by simp [ei, a6, (State.fieldFound?_type a3 ht).2]⟩⟩
    refine ⟨_, locs, X', hrep, hF, hL, fun target k => st target ?_⟩
    have e0 : T.heap.size = ρ.1 A.length := hR.1.1
    rw [e0]; exact k
theorem s_newarray {aty : ArrayType} {i : Int32} {j q cap : Nat} (w : (Jvm.Cond.arrayClass (newarray.typeOf aty)).before a0 Z = true) (hd : decode bytes pc = .ok (.newarray aty, 2)) (hj : A.length = j) (h0 : ¬ i < 0) (hq : i.toNatClampNeg = q) (hcap : q ≤ cap) (hb8 : cap * 8 ≤ 536870912) (hc : c + 1 ≤ R.cells) (hn : n + cap ≤ R.slots)
    (hA' : A ++ [.inr (newarray.typeOf aty, List.replicate q (defaultValue (newarray.typeOf aty)))] = A') : Sim l Z K ρ own mn bytes ml R (pc, L, .int i :: S, A, c, n) (pc + 2, L, .ref j :: S, A', c + 1, n + cap) :=
  fun p e s m args below meth cd T locs X hx hZ hby hml hown hnm hR hF hL => by
    have hcb : componentBytes (newarray.typeOf aty) ≤ 8 := by cases aty <;> decide
    subst hq
    obtain ⟨cA, kA, comp, h1, h2, h3, X', st⟩ := X.newarrayPrim hx (mvA hZ w) (g := oF ρ m (pc, L, .int i :: S, A, c, n)) rfl (hb hby hd) rfl h0 (Nat.le_trans (Nat.mul_le_mul hcap hcb) hb8) hc (by show n + _ ≤ _; omega)
    subst hA' hj
    rw [hZ.alike.findClass] at h1
    obtain ⟨kZ, z1, -⟩ := Vm.findClass_spec h1
    obtain ⟨k', z2, z3⟩ := hZ.alike.2.2 _ _ z1
    cases h2.symm.trans z2
    have hrep := hR.push (opush_ext T.heap { cls := cA, slots := Array.replicate i.toNatClampNeg (defaultValue (newarray.typeOf aty)), vm := .none }) (by simp) (c := .inr (newarray.typeOf aty, List.replicate i.toNatClampNeg (defaultValue (newarray.typeOf aty)))) ⟨⟨by show (List.replicate _ _).length < 2 ^ 31; rw [List.length_replicate]; omega, fun u hu => by rw [(List.mem_replicate.mp hu).2, ov_dflt]; cases aty <;> rfl⟩, _, ⟨opush_at _ _, ⟨by simp, kZ, z1, comp, by rw [← h3, z3]⟩, by simp⟩, by simp [ov_dflt]⟩
    refine ⟨_, locs, X'.more (Nat.le_refl _) (by show n + _ ≤ n + cap; omega), hrep, hF, hL, fun target k => st target ?_⟩
    have e0 : T.heap.size = ρ.1 A.length := hR.1.1
    rw [e0]; exact k
theorem s_anewarray {C : String} {x : Nat} {i : Int32} {j q : Nat} (w1 : (Jvm.Cond.classLink own x C).before a0 Z = true) (w2 : (Jvm.Cond.arrayOver (.object C)).before a0 Z = true) (hd : decode bytes pc = .ok (.anewarray x, 3)) (hj : A.length = j) (h0 : ¬ i < 0) (hq : i.toNatClampNeg = q) (hb8 : q * 8 ≤ 536870912) (hc : c + 1 ≤ R.cells) (hn : n + q ≤ R.slots)
    (hA' : A ++ [.inr (.object C, List.replicate q .null)] = A') : Sim l Z K ρ own mn bytes ml R (pc, L, .int i :: S, A, c, n) (pc + 3, L, .ref j :: S, A', c + 1, n + q) :=
  fun p e s m args below meth cd T locs X hx hZ hby hml hown hnm hR hF hL => by
    have w2' : (Jvm.Cond.arrayOver (.object C)).before args s = true := Cond.arrayOver_alike hZ.alike w2
    subst hq
    obtain ⟨vm₁, cA, kA, comp, -, h1, h2, h3, h4, X', st⟩ := X.anewarrayRefK hx hown (mv hZ w1) w2' (g := oF ρ m (pc, L, .int i :: S, A, c, n)) rfl (hb hby hd) rfl h0 (by omega) hc hn
    subst hA' hj
    rw [hZ.alike.findClass] at h1
    obtain ⟨kZ, z1, -⟩ := Vm.findClass_spec h1
    obtain ⟨k', z2, z3⟩ := hZ.alike.2.2 _ _ z1
    cases h2.symm.trans z2
    have kk : kZ.kind = .array comp (.object C) := by rw [← h3, z3]
    have hrep := hR.push (opush_ext T.heap { cls := cA, slots := Array.replicate i.toNatClampNeg .null, vm := .none }) (by simp) (c := .inr (.object C, List.replicate i.toNatClampNeg .null)) ⟨⟨by show (List.replicate _ _).length < 2 ^ 31; rw [List.length_replicate]; omega, fun u hu => by rw [(List.mem_replicate.mp hu).2]; rfl⟩, _, ⟨opush_at _ _, ⟨by simp, kZ, z1, comp, kk⟩, by simp⟩, by simp [ov]⟩
    refine ⟨_, locs, X', hrep, hF, hL, fun target k => st target ?_⟩
    have e0 : T.heap.size = ρ.1 A.length := hR.1.1
    rw [e0]; exact k
theorem s_initO {x W : Nat} {j : Addr} (w1 : (Jvm.Cond.methodLink own x Lib.objectInit).before a0 Z = true) (w2 : (Jvm.Cond.instanceMethod Lib.objectInit).before a0 Z = true) (w3 : (Jvm.Cond.code Lib.objectInit ⟨#[0xb1]⟩ 1 none).before a0 Z = true) (hd : decode bytes pc = .ok (.invokespecial x, 3)) (hf : 1 ≤ R.frames) (hW : (S.map fun v => v.category).sum = W) (hl : W + 12 ≤ R.locals) : Sim l Z K ρ own mn bytes ml R (pc, L, .ref j :: S, A, c, n) (pc + 3, L, S, A, c, n) :=
  fun p e s m args below meth cd T locs X hx hZ hby hml hown hnm hR hF hL => by
    obtain ⟨T', X', e', st⟩ := initO X hx hZ hown w1 w2 w3 rfl (g := oF ρ m (pc, L, .ref j :: S, A, c, n)) rfl (by rw [hml, ← hL]; simp) rfl (hb hby hd) hf (W := W) (by rw [← hW]; simp [Function.comp_def, ov_cat]) hl
    exact ⟨T', locs, X', by rw [e']; exact hR, hF, hL, st⟩
theorem ocat (S : List Value) : ((S.map (ov ρ)).map fun v => v.category).sum = (S.map fun v => v.category).sum := by simp [Function.comp_def, ov_cat]
theorem otl (v : Option Value) : (v.map (ov ρ)).toList = v.toList.map (ov ρ) := by cases v <;> rfl
theorem s_callS {x W : Nat} {y : MethodName} {by' : ByteArray} {ml' : Nat} {rt : Option FieldType} {rm : Room} {as : List Value} {S0 : List Value} (w1 : (Jvm.Cond.methodLink own x y).before a0 Z = true) (w2 : (Jvm.Cond.static y).before a0 Z = true) (w3 : (Jvm.Cond.initialized y.cls).before a0 Z = true) (w4 : (Jvm.Cond.code y by' ml' rt).before a0 Z = true)
    (hy : y.cls ≠ "java/lang/invoke/MethodHandle" ∧ y.cls ≠ "java/lang/invoke/VarHandle") (hlen : ∀ sig, parseMethodDescriptor y.desc = some sig → as.length = sig.parameters.length) (hd : decode bytes pc = .ok (.invokestatic x, 3)) (hM : Met l Z K ρ y by' ml' rt rm [] as A v A')
    (hS : S0 = as.reverse ++ S) (hW : (S.map fun v => v.category).sum = W) (hf : rm.frames + 1 ≤ R.frames) (hl : W + (ml' + 11) + rm.locals ≤ R.locals) (hc : c + rm.cells ≤ R.cells) (hn : n + rm.slots ≤ R.slots) : Sim l Z K ρ own mn bytes ml R (pc, L, S0, A, c, n) (pc + 3, L, v.toList ++ S, A', c + rm.cells, n + rm.slots) :=
  fun p e s m args below meth cd T locs X hx hZ hby hml hown hnm hR hF hL => by
    subst hS
    obtain ⟨_, _, ⟨T1, L1, k1, n1⟩, -, X1, ⟨Lc, hQ, l1, y1, z1⟩, st⟩ := Jvm.LawKit.callS X hx (y := y) hown (mvT hZ w1) (mvT hZ w2) (mvT hZ w3) (mvT hZ w4) hy (backOf (W := W) (Q := fun v' h L => v' = v.map (ov ρ) ∧ Fr (ρ.1 0) L ∧ oRep Z K ρ h A') (hM T.heap hR) hZ w4 w3 hf hl) (g := oF ρ m (pc, L, as.reverse ++ S, A, c, n)) rfl (by rw [hml, ← hL]; simp) (argsL := as.map (ov ρ)) (rest := S.map (ov ρ)) (fun sig q => by rw [List.length_map]; exact hlen sig q) (by show (as.reverse ++ S).map (ov ρ) = _; simp) (by show 2 * 0 + _ ≤ _; rw [ocat, hW]; omega) (hb hby hd) (fun _ _ => ⟨rfl, rfl, hc, hn⟩)
    dsimp only [Pt.U, Pt.locs, Pt.cells, Pt.slots] at X1 l1 y1 z1 st hQ
    subst l1 y1 z1
    obtain ⟨rfl, N1, R1⟩ := hQ
    refine ⟨T1, _, X1, R1, Fr.app hF N1, hL, fun target k => st target ?_⟩
    have e : (v.toList ++ S).map (ov ρ) = (v.map (ov ρ)).toList ++ S.map (ov ρ) := by rw [List.map_append, otl]
    rw [← e]; exact k
theorem s_callI {x W : Nat} {y : MethodName} {by' : ByteArray} {ml' : Nat} {rm : Room} {as : List Value} {j : Addr} {S0 : List Value} (hy1 : y.name = "<init>") (w1 : (Jvm.Cond.methodLink own x y).before a0 Z = true) (w2 : (Jvm.Cond.instanceMethod y).before a0 Z = true) (w3 : (Jvm.Cond.initialized y.cls).before a0 Z = true) (w4 : (Jvm.Cond.code y by' ml' none).before a0 Z = true)
    (hy : y.cls ≠ "java/lang/invoke/MethodHandle" ∧ y.cls ≠ "java/lang/invoke/VarHandle") (hlen : ∀ sig, parseMethodDescriptor y.desc = some sig → as.length = sig.parameters.length) (hd : decode bytes pc = .ok (.invokespecial x, 3)) (hM : Met l Z K ρ y by' ml' none rm [] (.ref j :: as) A v A')
    (hS : S0 = as.reverse ++ .ref j :: S) (hW : (S.map fun v => v.category).sum = W) (hf : rm.frames + 1 ≤ R.frames) (hl : W + (ml' + 11) + rm.locals ≤ R.locals) (hc : c + rm.cells ≤ R.cells) (hn : n + rm.slots ≤ R.slots) : Sim l Z K ρ own mn bytes ml R (pc, L, S0, A, c, n) (pc + 3, L, v.toList ++ S, A', c + rm.cells, n + rm.slots) :=
  fun p e s m args below meth cd T locs X hx hZ hby hml hown hnm hR hF hL => by
    subst hS
    obtain ⟨_, _, ⟨T1, L1, k1, n1⟩, -, X1, ⟨Lc, hQ, l1, y1, z1⟩, st⟩ := X.specialBack hx (y := y) hy1 hown (mvT hZ w1) (mvT hZ w2) (mvT hZ w4) hy (backOf (W := W) (Q := fun v' h L => v' = v.map (ov ρ) ∧ Fr (ρ.1 0) L ∧ oRep Z K ρ h A') (hM T.heap hR) hZ w4 w3 hf hl) (g := oF ρ m (pc, L, as.reverse ++ .ref j :: S, A, c, n)) rfl (by rw [hml, ← hL]; simp) (Steps.refl _) (a := ρ.1 j) (argsL := as.map (ov ρ)) (rest := S.map (ov ρ)) (fun sig q => by rw [List.length_map]; exact hlen sig q) (by show (as.reverse ++ .ref j :: S).map (ov ρ) = _; simp [ov]) (by show 2 * 0 + _ ≤ _; rw [ocat, hW]; omega) (hb hby hd) (fun _ _ => ⟨rfl, rfl, hc, hn⟩)
    dsimp only [Pt.U, Pt.locs, Pt.cells, Pt.slots] at X1 l1 y1 z1 st hQ
    subst l1 y1 z1
    obtain ⟨rfl, N1, R1⟩ := hQ
    refine ⟨T1, _, X1, R1, Fr.app hF N1, hL, fun target k => st.trans ?_⟩
    have e : (v.toList ++ S).map (ov ρ) = (v.map (ov ρ)).toList ++ S.map (ov ρ) := by rw [List.map_append, otl]
    rw [← e]; exact k
theorem s_callV {x W cid : Nat} {y : MethodName} {by' : ByteArray} {ml' : Nat} {rt : Option FieldType} {rm : Room} {as : List Value} {j : Addr} {vs : List Value} {S0 : List Value} (w1 : (Jvm.Cond.methodLink own x y).before a0 Z = true) (w2 : (Jvm.Cond.instanceMethod y).before a0 Z = true) (w3 : (Jvm.Cond.initialized y.cls).before a0 Z = true) (w4 : (Jvm.Cond.code y by' ml' rt).before a0 Z = true)
    (w5 : (Jvm.Cond.declares y).before a0 Z = true) (w6 : (Jvm.Cond.selects (K cid).1 y y).before a0 Z = true) (hy : y.cls ≠ "java/lang/invoke/MethodHandle" ∧ y.cls ≠ "java/lang/invoke/VarHandle") (hC : (K cid).1 = y.cls) (hlen : ∀ sig, parseMethodDescriptor y.desc = some sig → as.length = sig.parameters.length) (hd : decode bytes pc = .ok (.invokevirtual x, 3)) (hA : A[j]? = some (.inl (cid, vs))) (hM : Met l Z K ρ y by' ml' rt rm [] (.ref j :: as) A v A')
    (hS : S0 = as.reverse ++ .ref j :: S) (hW : (S.map fun v => v.category).sum = W) (hf : rm.frames + 1 ≤ R.frames) (hl : W + (ml' + 11) + rm.locals ≤ R.locals) (hc : c + rm.cells ≤ R.cells) (hn : n + rm.slots ≤ R.slots) : Sim l Z K ρ own mn bytes ml R (pc, L, S0, A, c, n) (pc + 3, L, v.toList ++ S, A', c + rm.cells, n + rm.slots) :=
  fun p e s m args below meth cd T locs X hx hZ hby hml hown hnm hR hF hL => by
    subst hS
    obtain ⟨cq, kq, qa, qb, qc⟩ := isOf hZ rfl (hR.obj hA).1
    have w6' : (Jvm.Cond.selects y.cls y y).before a0 Z = true := by rw [← hC]; exact w6
    obtain ⟨_, _, ⟨T1, L1, k1, n1⟩, -, X1, ⟨Lc, hQ, l1, y1, z1⟩, st⟩ := X.virtualBack hx (y := y) (z := y) hown (mvT hZ w1) (mvT hZ w5) (notFace_of_selects (args := #[]) (mvT hZ w6')) (mvT hZ w6) (mvT hZ w2) hy (backOf (W := W) (Q := fun v' h L => v' = v.map (ov ρ) ∧ Fr (ρ.1 0) L ∧ oRep Z K ρ h A') (hM T.heap hR) hZ w4 w3 hf hl) qa qc (g := oF ρ m (pc, L, as.reverse ++ .ref j :: S, A, c, n)) rfl (by rw [hml, ← hL]; simp) (Steps.refl _) (argsL := as.map (ov ρ)) (rest := S.map (ov ρ)) (fun sig q => by rw [List.length_map]; exact hlen sig q) (by show (as.reverse ++ .ref j :: S).map (ov ρ) = _; simp [ov]) (by show 2 * 0 + _ ≤ _; rw [ocat, hW]; omega) (hb hby hd) (fun _ _ => ⟨rfl, rfl, hc, hn⟩)
    dsimp only [Pt.U, Pt.locs, Pt.cells, Pt.slots] at X1 l1 y1 z1 st hQ
    subst l1 y1 z1
    obtain ⟨rfl, N1, R1⟩ := hQ
    refine ⟨T1, _, X1, R1, Fr.app hF N1, hL, fun target k => st.trans ?_⟩
    have e : (v.toList ++ S).map (ov ρ) = (v.map (ov ρ)).toList ++ S.map (ov ρ) := by rw [List.map_append, otl]
    rw [← e]; exact k
theorem s_callP {x W cid kk : Nat} {y : MethodName} {by' : ByteArray} {ml' : Nat} {rt : Option FieldType} {rm : Room} {as : List Value} {j : Addr} {vs : List Value} {S0 : List Value} (w1 : (Jvm.Cond.methodLink own x y).before a0 Z = true) (w2 : (Jvm.Cond.instanceMethod y).before a0 Z = true) (w3 : (Jvm.Cond.initialized y.cls).before a0 Z = true) (w4 : (Jvm.Cond.code y by' ml' rt).before a0 Z = true)
    (w5 : (Jvm.Cond.privateMethod y).before a0 Z = true) (w6 : (Jvm.Cond.instantiable y.cls kk).before a0 Z = true) (hy : y.cls ≠ "java/lang/invoke/MethodHandle" ∧ y.cls ≠ "java/lang/invoke/VarHandle") (hlen : ∀ sig, parseMethodDescriptor y.desc = some sig → as.length = sig.parameters.length) (hd : decode bytes pc = .ok (.invokevirtual x, 3)) (hA : A[j]? = some (.inl (cid, vs))) (hM : Met l Z K ρ y by' ml' rt rm [] (.ref j :: as) A v A')
    (hS : S0 = as.reverse ++ .ref j :: S) (hW : (S.map fun v => v.category).sum = W) (hf : rm.frames + 1 ≤ R.frames) (hl : W + (ml' + 11) + rm.locals ≤ R.locals) (hc : c + rm.cells ≤ R.cells) (hn : n + rm.slots ≤ R.slots) : Sim l Z K ρ own mn bytes ml R (pc, L, S0, A, c, n) (pc + 3, L, v.toList ++ S, A', c + rm.cells, n + rm.slots) :=
  fun p e s m args below meth cd T locs X hx hZ hby hml hown hnm hR hF hL => by
    subst hS
    obtain ⟨cq, q1, q2⟩ := (hR.obj hA).1.cell
    have wi' : (Jvm.Cond.instantiable y.cls kk).before args s = true := mv hZ w6
    obtain ⟨c1, k1, f1, f2, -, f4, -⟩ := Cond.instantiable_spec wi'
    have hni : k1.isInterface = false := by cases q : k1.isInterface <;> simp [q] at f4 ⊢
    have hpv := Cond.privateMethod_at (mvP (args := args) hZ w5)
    have w2' : (Jvm.Cond.instanceMethod y).before args s = true := mvT hZ w2
    have w6' : (Jvm.Cond.selects y.cls y y).before args s = true := selects_self_of_private f1 f2 hni hpv w2' hy
    obtain ⟨_, _, ⟨T1, L1, k1, n1⟩, -, X1, ⟨Lc, hQ, l1, y1, z1⟩, st⟩ := X.privateBack hx (y := y) hown (mvT hZ w1) w2' w6' hpv (mvT hZ w4) hy (backOf (W := W) (Q := fun v' h L => v' = v.map (ov ρ) ∧ Fr (ρ.1 0) L ∧ oRep Z K ρ h A') (hM T.heap hR) hZ w4 w3 hf hl) (g := oF ρ m (pc, L, as.reverse ++ .ref j :: S, A, c, n)) rfl (by rw [hml, ← hL]; simp) (Steps.refl _) (a := ρ.1 j) q1 q2 (argsL := as.map (ov ρ)) (rest := S.map (ov ρ)) (fun sig q => by rw [List.length_map]; exact hlen sig q) (by show (as.reverse ++ .ref j :: S).map (ov ρ) = _; simp [ov]) (by show 2 * 0 + _ ≤ _; rw [ocat, hW]; omega) (hb hby hd) (fun _ _ => ⟨rfl, rfl, hc, hn⟩)
    dsimp only [Pt.U, Pt.locs, Pt.cells, Pt.slots] at X1 l1 y1 z1 st hQ
    subst l1 y1 z1
    obtain ⟨rfl, N1, R1⟩ := hQ
    refine ⟨T1, _, X1, R1, Fr.app hF N1, hL, fun target k => st.trans ?_⟩
    have e : (v.toList ++ S).map (ov ρ) = (v.map (ov ρ)).toList ++ S.map (ov ρ) := by rw [List.map_append, otl]
    rw [← e]; exact k
theorem orun1 (cl : Cell) (i : Nat) (w : Value) : cl.storeRun i [w] = cl.setSlot i w := rfl
theorem s_arraycopy1 {x W : Nat} {j k : Addr} {vs us : List Value} {sp dp : Int32} {w : Value} (w1 : (Jvm.Cond.methodLink own x Jvm.Stand.acN).before a0 Z = true) (w2 : (Jvm.Cond.native Jvm.Stand.acN).before a0 Z = true) (w3 : (Jvm.Cond.static Jvm.Stand.acN).before a0 Z = true) (w4 : (Jvm.Cond.initialized "java/lang/System").before a0 Z = true)
    (hd : decode bytes pc = .ok (.invokestatic x, 3)) (hA : A[j]? = some (.inr (.int, vs))) (hB : A[k]? = some (.inr (.int, us))) (h1 : ¬ sp < 0) (h2 : ¬ dp < 0) (hv : vs[sp.toNatClampNeg]? = some w) (hi : dp.toNatClampNeg < us.length) (hf : 1 ≤ R.frames) (hW : (S.map fun v => v.category).sum = W) (hl : W + 18 ≤ R.locals)
    (hA' : A.set k (.inr (.int, us.set dp.toNatClampNeg w)) = A') : Sim l Z K ρ own mn bytes ml R (pc, L, .int 1 :: .int dp :: .ref k :: .int sp :: .ref j :: S, A, c, n) (pc + 3, L, S, A', c, n) :=
  fun p e s m args below meth cd T locs X hx hZ hby hml hown hnm hR hF hL => by
    subst hA'
    obtain ⟨⟨a1, a1'⟩, cs, a2, a3⟩ := hR.arr hA
    obtain ⟨⟨b1, b1'⟩, ct, b2, b3⟩ := hR.arr hB
    obtain ⟨q1, q2⟩ := oin a3 h1 hv
    have hw : fits .int (ov ρ w) = true := a1' w (List.mem_of_getElem? hv)
    obtain ⟨z, ez⟩ := fit_I hw (Or.inl rfl)
    obtain ⟨os, ks, hks, sc, hsk⟩ := State.isArrayOf_alike hZ.alike a2.2.1
    obtain ⟨od, kd, hkd, dc, hdk⟩ := State.isArrayOf_alike hZ.alike b2.2.1
    have nat : ∀ {x : Int32}, ¬ x < 0 → x.toInt = x.toNatClampNeg := fun {x} q => by
      rw [Int32.lt_iff_toInt_lt] at q; have : (0 : Int32).toInt = 0 := rfl
      simp only [Int32.toNatClampNeg]; omega
    have sz1 : cs.slots.size = vs.length := by rw [a3]; simp
    have sz2 : ct.slots.size = us.length := by rw [b3]; simp
    have e1 : (1 : Int32).toInt = 1 := rfl
    have e1' : (1 : Int32).toNatClampNeg = 1 := rfl
    have hlt := (List.getElem?_eq_some_iff.mp hv).1
    have hgd : cs.slots.getD sp.toNatClampNeg .null = .int z := by rw [Array.getD_eq_getD_getElem?, q2, ez]; rfl
    have hst : cs.stretch sp.toNatClampNeg (1 : Int32).toNatClampNeg = [.int z] := by
      show [cs.slots.getD (sp.toNatClampNeg + 0) .null] = _
      rw [Nat.add_zero, hgd]
    obtain ⟨vm₁, hW₁, X', st⟩ := X.arraycopyK hx hown (mvT hZ w1) (mvT hZ w2) (mvT hZ w3) (mvT hZ w4) (srcPos := sp) (destPos := dp) (n := 1) a2.1 b2.1 os od a2.2.2 b2.2.2 hks hkd hsk hdk rfl h1 h2 (by decide)
      (by rw [nat h1, e1, sz1]; omega) (by rw [nat h2, e1, sz2]; omega) (fun vm hv i hi => by
        have hi0 : i = 0 := by rw [e1'] at hi; omega
        subst hi0
        rw [Nat.add_zero, hgd]; exact ⟨rfl, trivial⟩) (g := oF ρ m (pc, L, .int 1 :: .int dp :: .ref k :: .int sp :: .ref j :: S, A, c, n)) rfl (by rw [hml, ← hL]; simp) rfl (hb hby hd) hf (by show 2 * 0 + _ + (7 + 11) ≤ _; rw [ocat, hW]; omega)
    have ecp : copied cs ct sp dp 1 = ct.setSlot dp.toNatClampNeg (ov ρ w) := by
      show ct.storeRun _ (cs.stretch _ _) = _
      rw [hst, orun1, ez]
    rw [ecp] at X' st
    have hWr : Wr T.heap (T.heap.setIfInBounds (ρ.1 k) (ct.setSlot dp.toNatClampNeg (ov ρ w))) (ρ.1 k) dp.toNatClampNeg (ov ρ w) := ⟨ct, b2.1, b2.plain, by rw [sz2]; exact hi, rfl⟩
    refine ⟨_, _, X', hR.arrSet hB hw hWr, Fr.app hF fun y hy => ?_, hL, st⟩
    have := Jvm.Stand.copyLocs_base hy
    rw [this]; exact hR.ge k
/-! the returns -/
theorem e_return (hd : decode bytes pc = .ok (.return_, 1)) (hr : ret = none) (hc : c ≤ R.cells) (hn : n ≤ R.slots) : Ends l Z K ρ own mn bytes ml R ret (pc, L, [], A, c, n) none A :=
  fun p e s m args below meth cd T locs X hx hZ hby hml hown hnm hR hF hL hrt hlk => by
    obtain ⟨fs, hl, hrun, hended, hW, hsame⟩ := X.leave (v := none) (fun _ => rfl) hlk
    exact ⟨_, locs, X.returnOut hx (hrt.trans hr) (hb hby hd) hl, hrun, hended, hF, hR, hW, hsame.mono hc hn⟩
theorem e_ireturn {z : Int32} (hd : decode bytes pc = .ok (.ireturn, 1)) (hr : ret = some .int) (hc : c ≤ R.cells) (hn : n ≤ R.slots) : Ends l Z K ρ own mn bytes ml R ret (pc, L, .int z :: S, A, c, n) (some (.int z)) A :=
  fun p e s m args below meth cd T locs X hx hZ hby hml hown hnm hR hF hL hrt hlk => by
    obtain ⟨fs, hl, hrun, hended, hW, hsame⟩ := X.leave (v := some (.int z)) (fun h => by rw [hrt, hr] at h; cases h) hlk
    exact ⟨_, locs, retOut X hx (t := .int) (hrt.trans hr) rfl (Or.inl ⟨rfl, Or.inl rfl, z, rfl⟩) (hb hby hd) hl, hrun, hended, hF, hR, hW, hsame.mono hc hn⟩
theorem e_nreturn {z u : Int32} {t : FieldType} (hd : decode bytes pc = .ok (.ireturn, 1)) (hr : ret = some t) (ht : t = .boolean ∨ t = .byte ∨ t = .char ∨ t = .short) (hu : nar t z = u) (hc : c ≤ R.cells) (hn : n ≤ R.slots) : Ends l Z K ρ own mn bytes ml R ret (pc, L, .int z :: S, A, c, n) (some (.int u)) A :=
  fun p e s m args below meth cd T locs X hx hZ hby hml hown hnm hR hF hL hrt hlk => by
    subst hu
    obtain ⟨fs, hl, hrun, hended, hW, hsame⟩ := X.leave (v := some (.int (nar t z))) (fun h => by rw [hrt, hr] at h; cases h) hlk
    exact ⟨_, locs, retN X hx (t := t) (hrt.trans hr) ht (hb hby hd) hl, hrun, hended, hF, hR, hW, hsame.mono hc hn⟩
theorem e_lreturn {z : Int64} (hd : decode bytes pc = .ok (.lreturn, 1)) (hr : ret = some .long) (hc : c ≤ R.cells) (hn : n ≤ R.slots) : Ends l Z K ρ own mn bytes ml R ret (pc, L, .long z :: S, A, c, n) (some (.long z)) A :=
  fun p e s m args below meth cd T locs X hx hZ hby hml hown hnm hR hF hL hrt hlk => by
    obtain ⟨fs, hl, hrun, hended, hW, hsame⟩ := X.leave (v := some (.long z)) (fun h => by rw [hrt, hr] at h; cases h) hlk
    exact ⟨_, locs, retOut X hx (t := .long) (hrt.trans hr) rfl (Or.inr (Or.inl ⟨rfl, rfl, z, rfl⟩)) (hb hby hd) hl, hrun, hended, hF, hR, hW, hsame.mono hc hn⟩
theorem e_areturn {w : Value} {t : FieldType} (hd : decode bytes pc = .ok (.areturn, 1)) (hr : ret = some t) (ht : t.isReference = true) (hw : (ov ρ w).isRef = true) (hc : c ≤ R.cells) (hn : n ≤ R.slots) : Ends l Z K ρ own mn bytes ml R ret (pc, L, w :: S, A, c, n) (some w) A :=
  fun p e s m args below meth cd T locs X hx hZ hby hml hown hnm hR hF hL hrt hlk => by
    have hw' := hw
    obtain ⟨fs, hl, hrun, hended, hW, hsame⟩ := X.leave (v := some (ov ρ w)) (fun h => by rw [hrt, hr] at h; cases h) hlk
    exact ⟨_, locs, retOut X hx (t := t) (hrt.trans hr) (by cases t <;> first | rfl | cases ht) (Or.inr (Or.inr (Or.inr (Or.inr ⟨rfl, ht, hw'⟩)))) (hb hby hd) hl, hrun, hended, hF, hR, hW, hsame.mono hc hn⟩
/-! from the walk to the contract -/
def oE0 : List Value → List Slot
  | [] => []
  | v :: vs => if v.category = 2 then .val v :: .second :: oE0 vs else .val v :: oE0 vs
def oE (as : List Value) (ml : Nat) : List Slot := oE0 as ++ List.replicate (ml - (oE0 as).length) .unset
theorem oE0_ok (as : List Value) (acc : List Slot) : ((as.map (ov ρ)).toArray.foldl (init := acc.toArray) fun acc v => if v.category = 2 then (acc.push (.val v)).push .second else acc.push (.val v)) = (acc ++ (oE0 as).map (osl ρ)).toArray := by
  induction as generalizing acc with
  | nil => simp [oE0]
  | cons v vs ih =>
    have h := ih
    simp only [List.map_cons, List.foldl_toArray', List.foldl_cons, ov_cat] at h ⊢
    by_cases q : v.category = 2
    · have e : (acc.toArray.push (Slot.val (ov ρ v))).push .second = (acc ++ [Slot.val (ov ρ v), Slot.second]).toArray := by simp
      rw [if_pos q, e, h]; simp [oE0, q, osl]
    · have e : acc.toArray.push (Slot.val (ov ρ v)) = (acc ++ [Slot.val (ov ρ v)]).toArray := by simp
      rw [if_neg q, e, h]; simp [oE0, q, osl]
theorem oentry {as : List Value} {L0 : List Slot} (h : oE as ml = L0) (m : MethodId) : entryFrame m (as.map (ov ρ)).toArray ml = mkF m 0 (L0.map (osl ρ)).toArray [] := by
  subst h
  have e := oE0_ok (ρ := ρ) as []
  have q : argsToLocals (as.map (ov ρ)).toArray ml = ((oE as ml).map (osl ρ)).toArray := by
    have e' : ∀ X : Array Slot, X = (([] : List Slot) ++ (oE0 as).map (osl ρ)).toArray → X ++ Array.replicate (ml - X.size) Slot.unset = ((oE as ml).map (osl ρ)).toArray := fun X hX => by rw [hX]; simp [oE, osl]
    have e2 := e' _ e
    exact e2
  show ({ method := m, pc := 0, locals := argsToLocals _ ml, stack := [], locked := none } : JFrame) = _
  rw [q]
theorem Met.of {y : MethodName} {rm : Room} {ws : List Jvm.Cond} {as : List Value} {L0 : List Slot} (hp : plainFor y = true) (he : ∀ m, entryFrame m (as.map (ov ρ)).toArray ml = mkF m 0 (L0.map (osl ρ)).toArray []) (hL0 : L0.length = ml)
    (hE : Ends l Z K ρ y.cls y.name bytes ml rm ret (0, L0, [], A, 0, 0) v A') : Met l Z K ρ y bytes ml ret rm ws as A v A' := fun h0 hR0 => by
  refine MetFree.of_bodySF hp hisR ?_
  intro p e s m args below meth c s₁ Bd hml0 hP hK
  obtain ⟨rfl, hZ, hh⟩ := hP
  have hown : s.vm.findClass y.cls = some m.cls := findClass_of_methodNamed Bd.named
  have hnm := (name_of_methodNamed Bd.named Bd.method).1
  have X0 : Stand p l e rm s m (as.map (ov ρ)).toArray below meth c s₁ [] 0 0 := Stand.of_body Bd
  have e0 : s₁.heap = h0 := by rw [← hh, Bd.state]; rfl
  obtain ⟨s2, L, g1, g2, g3, g4, g5, g6, g7⟩ := hE p e s m _ below meth c s₁ [] X0 Bd.exec hZ Bd.bytes hml0 hown hnm (by show oRep Z K ρ s₁.heap A; rw [e0]; exact hR0) (Fr.nil _) hL0 Bd.returns Bd.notSynchronized
  refine ⟨s2, _, castTop (he m) g1, g2, g3, _, L, rfl, ⟨rfl, g4, g5⟩, ⟨_, rfl⟩, g6, g7⟩
theorem Met.ofE {y : MethodName} {rm : Room} {ws : List Jvm.Cond} {as : List Value} {L0 : List Slot} (hp : plainFor y = true) (he : ∀ m, entryFrame m (as.map (ov ρ)).toArray ml = mkF m 0 (L0.map (osl ρ)).toArray []) (hL0 : L0.length = ml)
    (hE : EndsE l Z K ρ y.cls y.name bytes ml rm ret (0, L0, [], A, 0, 0) v) : ∃ A', Met l Z K ρ y bytes ml ret rm ws as A v A' := hE.imp fun _ h => Met.of hp he hL0 h
end Layer

/-! ARITH: ints and longs by their unsigned numbers -/
def u32 (x : Int32) : Nat := x.toBitVec.toNat
def u64 (x : Int64) : Nat := x.toBitVec.toNat
theorem u32_lt (x : Int32) : u32 x < 4294967296 := x.toBitVec.isLt
theorem u64_lt (x : Int64) : u64 x < 18446744073709551616 := x.toBitVec.isLt
theorem u32_inj {x y : Int32} (h : u32 x = u32 y) : x = y := Int32.toBitVec_inj.mp (BitVec.eq_of_toNat_eq h)
theorem u64_inj {x y : Int64} (h : u64 x = u64 y) : x = y := Int64.toBitVec_inj.mp (BitVec.eq_of_toNat_eq h)
theorem u32_toInt (x : Int32) : x.toInt = if 2 * u32 x < 4294967296 then (u32 x : Int) else (u32 x : Int) - 4294967296 := BitVec.toInt_eq_toNat_cond x.toBitVec
theorem u64_toInt (x : Int64) : x.toInt = if 2 * u64 x < 18446744073709551616 then (u64 x : Int) else (u64 x : Int) - 18446744073709551616 := BitVec.toInt_eq_toNat_cond x.toBitVec
theorem u32_nn {x : Int32} (h : 0 ≤ x.toInt) : (u32 x : Int) = x.toInt := by have h1 := u32_toInt x; have := u32_lt x; split at h1 <;> omega
theorem u64_nn {x : Int64} (h : 0 ≤ x.toInt) : (u64 x : Int) = x.toInt := by have h1 := u64_toInt x; have := u64_lt x; split at h1 <;> omega
theorem u32_and (x y : Int32) : u32 (x &&& y) = u32 x &&& u32 y := by show (x &&& y).toBitVec.toNat = _; rw [Int32.toBitVec_and, BitVec.toNat_and]; rfl
theorem u32_or (x y : Int32) : u32 (x ||| y) = u32 x ||| u32 y := by show (x ||| y).toBitVec.toNat = _; rw [Int32.toBitVec_or, BitVec.toNat_or]; rfl
theorem u32_xor (x y : Int32) : u32 (x ^^^ y) = u32 x ^^^ u32 y := by show (x ^^^ y).toBitVec.toNat = _; rw [Int32.toBitVec_xor, BitVec.toNat_xor]; rfl
theorem u64_and (x y : Int64) : u64 (x &&& y) = u64 x &&& u64 y := by show (x &&& y).toBitVec.toNat = _; rw [Int64.toBitVec_and, BitVec.toNat_and]; rfl
theorem u64_or (x y : Int64) : u64 (x ||| y) = u64 x ||| u64 y := by show (x ||| y).toBitVec.toNat = _; rw [Int64.toBitVec_or, BitVec.toNat_or]; rfl
theorem u64_xor (x y : Int64) : u64 (x ^^^ y) = u64 x ^^^ u64 y := by show (x ^^^ y).toBitVec.toNat = _; rw [Int64.toBitVec_xor, BitVec.toNat_xor]; rfl
theorem u32_add (x y : Int32) : u32 (x + y) = (u32 x + u32 y) % 4294967296 := by show (x + y).toBitVec.toNat = _; rw [Int32.toBitVec_add, BitVec.toNat_add]; rfl
theorem u64_add (x y : Int64) : u64 (x + y) = (u64 x + u64 y) % 18446744073709551616 := by show (x + y).toBitVec.toNat = _; rw [Int64.toBitVec_add, BitVec.toNat_add]; rfl
theorem u32_mul (x y : Int32) : u32 (x * y) = (u32 x * u32 y) % 4294967296 := by show (x * y).toBitVec.toNat = _; rw [Int32.toBitVec_mul, BitVec.toNat_mul]; rfl
theorem u64_mul (x y : Int64) : u64 (x * y) = (u64 x * u64 y) % 18446744073709551616 := by show (x * y).toBitVec.toNat = _; rw [Int64.toBitVec_mul, BitVec.toNat_mul]; rfl
theorem and31 (n : Nat) : n &&& 31 = n % 32 := Nat.and_two_pow_sub_one_eq_mod n 5
theorem and63 (n : Nat) : n &&& 63 = n % 64 := Nat.and_two_pow_sub_one_eq_mod n 6
theorem u32_ushr (x y : Int32) : u32 (jushr x y) = u32 x / 2 ^ (u32 y % 32) := by
  show (x.toBitVec >>> ((y &&& 31).toBitVec % 32#32)).toNat = _
  rw [BitVec.ushiftRight_eq', BitVec.toNat_ushiftRight, Nat.shiftRight_eq_div_pow, BitVec.toNat_umod]
  have e : (y &&& 31).toBitVec.toNat = u32 y % 32 := (u32_and y 31).trans (and31 _)
  rw [e]
  show u32 x / 2 ^ (u32 y % 32 % 32) = _
  rw [Nat.mod_mod]
theorem u32_shl (x y : Int32) : u32 (jshl x y) = (u32 x * 2 ^ (u32 y % 32)) % 4294967296 := by
  show (x.toBitVec <<< ((y &&& 31).toBitVec.smod 32#32)).toNat = _
  have e := sm32 y (u32 y % 32) rfl
  rw [BitVec.shiftLeft_eq', BitVec.toNat_shiftLeft, Nat.shiftLeft_eq]
  have e' : ((y &&& 31).toBitVec.smod 32#32).toNat = u32 y % 32 := e
  rw [e']; rfl
theorem u64_ushr (x : Int64) (y : Int32) : u64 (jushrL x y) = u64 x / 2 ^ (u32 y % 64) := by
  obtain ⟨e, h⟩ := sm64 y (u32 y % 64) rfl
  show (x.toBitVec >>> ((y &&& 0x3f).toInt64.toBitVec % 64#64)).toNat = _
  rw [e, BitVec.ushiftRight_eq', BitVec.toNat_ushiftRight, Nat.shiftRight_eq_div_pow, BitVec.toNat_umod, BitVec.toNat_ofNat]
  show u64 x / 2 ^ (u32 y % 64 % 18446744073709551616 % 64) = _
  congr 2
  omega
theorem u64_shl (x : Int64) (y : Int32) : u64 (jshlL x y) = (u64 x * 2 ^ (u32 y % 64)) % 18446744073709551616 := by
  obtain ⟨e, h⟩ := sm64 y (u32 y % 64) rfl
  show (x.toBitVec <<< ((y &&& 0x3f).toInt64.toBitVec.smod 64#64)).toNat = _
  rw [e, BitVec.shiftLeft_eq', BitVec.toNat_shiftLeft, Nat.shiftLeft_eq]
  have e' := smod64 (u32 y % 64) h
  have e'' : ((BitVec.ofNat 64 (u32 y % 64)).smod 64#64).toNat = u32 y % 64 := e'
  rw [e'']; rfl
theorem u32_l2i (x : Int64) : u32 x.toInt32 = u64 x % 4294967296 := by
  show x.toInt32.toBitVec.toNat = _
  rw [Int64.toBitVec_toInt32, BitVec.signExtend_eq_setWidth_of_le _ (by decide), BitVec.toNat_setWidth]; rfl
theorem u64_i2l (x : Int32) : u64 x.toInt64 = if 2 * u32 x < 4294967296 then u32 x else u32 x + 18446744069414584320 := by
  have h := c_i2l x
  rw [u64_toInt, u32_toInt] at h
  have := u32_lt x; have := u64_lt x.toInt64
  split <;> split at h <;> omega
theorem i32_of {x : Int32} {n : Nat} (h : u32 x = n) : x = Int32.ofNat n := by
  apply u32_inj; rw [h]
  show n = (BitVec.ofNat 32 n).toNat
  rw [BitVec.toNat_ofNat, Nat.mod_eq_of_lt]; have := u32_lt x; omega
theorem i64_of {x : Int64} {n : Nat} (h : u64 x = n) : x = Int64.ofNat n := by
  apply u64_inj; rw [h]
  show n = (BitVec.ofNat 64 n).toNat
  rw [BitVec.toNat_ofNat, Nat.mod_eq_of_lt]; have := u64_lt x; omega
theorem u32_of (n : Nat) (h : n < 4294967296) : u32 (Int32.ofNat n) = n := by
  show (BitVec.ofNat 32 n).toNat = n
  rw [BitVec.toNat_ofNat, Nat.mod_eq_of_lt]; omega
theorem u64_of (n : Nat) (h : n < 18446744073709551616) : u64 (Int64.ofNat n) = n := by
  show (BitVec.ofNat 64 n).toNat = n
  rw [BitVec.toNat_ofNat, Nat.mod_eq_of_lt]; omega
theorem toInt_of {n : Nat} (h : n < 2147483648) : (Int32.ofNat n).toInt = n := Int32.toInt_ofNat_of_lt (by omega)
theorem tnc_of {n : Nat} (h : n < 2147483648) : (Int32.ofNat n).toNatClampNeg = n := by show (Int32.ofNat n).toInt.toNat = n; rw [toInt_of h]; rfl
theorem nneg_of {n : Nat} (h : n < 2147483648) : ¬ Int32.ofNat n < 0 := by rw [Int32.lt_iff_toInt_lt, toInt_of h]; show ¬ (n : Int) < 0; omega
theorem jcmp_lt (x y : Int64) : jcmp x y < 0 ↔ x < y := lw_lt x y
theorem jcmp_gt (x y : Int64) : 0 < jcmp x y ↔ y < x := lw_gt x y
theorem jcmp_eq (x y : Int64) : jcmp x y = 0 ↔ x = y := lw_eq x y
/-- a mask of the bits from k on -/
theorem nat_hi (n k w : Nat) (h : n < 2 ^ w) (hk : k ≤ w) : n &&& (2 ^ w - 2 ^ k) = n / 2 ^ k * 2 ^ k := by
  apply Nat.eq_of_testBit_eq
  intro i
  have e : 2 ^ w - 2 ^ k = (2 ^ (w - k) - 1) <<< k := by
    rw [Nat.shiftLeft_eq, Nat.sub_mul, Nat.one_mul, ← Nat.pow_add, Nat.sub_add_cancel hk]
  rw [e, ← Nat.shiftRight_eq_div_pow, ← Nat.shiftLeft_eq, Nat.testBit_and, Nat.testBit_shiftLeft, Nat.testBit_shiftLeft, Nat.testBit_two_pow_sub_one, Nat.testBit_shiftRight]
  by_cases q : k ≤ i
  · simp only [q, decide_true, Bool.true_and]
    have e2 : k + (i - k) = i := by omega
    rw [e2]
    by_cases r : i < w
    · have : decide (i - k < w - k) = true := by simp; omega
      rw [this, Bool.and_true]
    · have : n.testBit i = false := Nat.testBit_lt_two_pow (Nat.lt_of_lt_of_le h (Nat.pow_le_pow_right (by decide) (by omega)))
      rw [this]; simp
  · simp [q]

theorem d1_0 : decode prog_20_method_1_code 0 = .ok (.aload_n 0, 1) := by decide +kernel
theorem d1_1 : decode prog_20_method_1_code 1 = .ok (.invokespecial 1, 3) := by decide +kernel
theorem d1_4 : decode prog_20_method_1_code 4 = .ok (.aload_n 0, 1) := by decide +kernel
theorem d1_5 : decode prog_20_method_1_code 5 = .ok (.iload_n 1, 1) := by decide +kernel
theorem d1_6 : decode prog_20_method_1_code 6 = .ok (.putfield 7, 3) := by decide +kernel
theorem d1_9 : decode prog_20_method_1_code 9 = .ok (.aload_n 0, 1) := by decide +kernel
theorem d1_10 : decode prog_20_method_1_code 10 = .ok (.bipush 16, 2) := by decide +kernel
theorem d1_12 : decode prog_20_method_1_code 12 = .ok (.iload_n 1, 1) := by decide +kernel
theorem d1_13 : decode prog_20_method_1_code 13 = .ok (.iconst 1, 1) := by decide +kernel
theorem d1_14 : decode prog_20_method_1_code 14 = .ok (.invokestatic 13, 3) := by decide +kernel
theorem d1_17 : decode prog_20_method_1_code 17 = .ok (.imul, 1) := by decide +kernel
theorem d1_18 : decode prog_20_method_1_code 18 = .ok (.newarray .int, 2) := by decide +kernel
theorem d1_20 : decode prog_20_method_1_code 20 = .ok (.putfield 19, 3) := by decide +kernel
theorem d1_23 : decode prog_20_method_1_code 23 = .ok (.aload_n 0, 1) := by decide +kernel
theorem d1_24 : decode prog_20_method_1_code 24 = .ok (.bipush 32, 2) := by decide +kernel
theorem d1_26 : decode prog_20_method_1_code 26 = .ok (.newarray .int, 2) := by decide +kernel
theorem d1_28 : decode prog_20_method_1_code 28 = .ok (.putfield 23, 3) := by decide +kernel
theorem d1_31 : decode prog_20_method_1_code 31 = .ok (.aload_n 0, 1) := by decide +kernel
theorem d1_32 : decode prog_20_method_1_code 32 = .ok (.iload_n 1, 1) := by decide +kernel
theorem d1_33 : decode prog_20_method_1_code 33 = .ok (.anewarray 26, 3) := by decide +kernel
theorem d1_36 : decode prog_20_method_1_code 36 = .ok (.putfield 28, 3) := by decide +kernel
theorem d1_39 : decode prog_20_method_1_code 39 = .ok (.return_, 1) := by decide +kernel
theorem d3_0 : decode jdk_29_method_65_code 0 = .ok (.iload_n 0, 1) := by decide +kernel
theorem d3_1 : decode jdk_29_method_65_code 1 = .ok (.iload_n 1, 1) := by decide +kernel
theorem d3_2 : decode jdk_29_method_65_code 2 = .ok (.if_icmp .lt 7, 3) := by decide +kernel
theorem d3_5 : decode jdk_29_method_65_code 5 = .ok (.iload_n 0, 1) := by decide +kernel
theorem d3_6 : decode jdk_29_method_65_code 6 = .ok (.goto 4, 3) := by decide +kernel
theorem d3_9 : decode jdk_29_method_65_code 9 = .ok (.iload_n 1, 1) := by decide +kernel
theorem d3_10 : decode jdk_29_method_65_code 10 = .ok (.ireturn, 1) := by decide +kernel
theorem d4_0 : decode prog_20_method_9_code 0 = .ok (.aload_n 0, 1) := by decide +kernel
theorem d4_1 : decode prog_20_method_9_code 1 = .ok (.getfield 41, 3) := by decide +kernel
theorem d4_4 : decode prog_20_method_9_code 4 = .ok (.aload_n 0, 1) := by decide +kernel
theorem d4_5 : decode prog_20_method_9_code 5 = .ok (.getfield 38, 3) := by decide +kernel
theorem d4_8 : decode prog_20_method_9_code 8 = .ok (.if_icmp .le 7, 3) := by decide +kernel
theorem d4_11 : decode prog_20_method_9_code 11 = .ok (.iconst 1, 1) := by decide +kernel
theorem d4_12 : decode prog_20_method_9_code 12 = .ok (.goto 4, 3) := by decide +kernel
theorem d4_15 : decode prog_20_method_9_code 15 = .ok (.iconst 0, 1) := by decide +kernel
theorem d4_16 : decode prog_20_method_9_code 16 = .ok (.ireturn, 1) := by decide +kernel
theorem d5_0 : decode prog_20_method_11_code 0 = .ok (.aload_n 0, 1) := by decide +kernel
theorem d5_1 : decode prog_20_method_11_code 1 = .ok (.aload_n 0, 1) := by decide +kernel
theorem d5_2 : decode prog_20_method_11_code 2 = .ok (.getfield 32, 3) := by decide +kernel
theorem d5_5 : decode prog_20_method_11_code 5 = .ok (.putfield 44, 3) := by decide +kernel
theorem d5_8 : decode prog_20_method_11_code 8 = .ok (.return_, 1) := by decide +kernel
theorem d6_0 : decode prog_20_method_12_code 0 = .ok (.aload_n 0, 1) := by decide +kernel
theorem d6_1 : decode prog_20_method_12_code 1 = .ok (.aload_n 0, 1) := by decide +kernel
theorem d6_2 : decode prog_20_method_12_code 2 = .ok (.getfield 44, 3) := by decide +kernel
theorem d6_5 : decode prog_20_method_12_code 5 = .ok (.putfield 38, 3) := by decide +kernel
theorem d6_8 : decode prog_20_method_12_code 8 = .ok (.aload_n 0, 1) := by decide +kernel
theorem d6_9 : decode prog_20_method_12_code 9 = .ok (.aload_n 0, 1) := by decide +kernel
theorem d6_10 : decode prog_20_method_12_code 10 = .ok (.getfield 32, 3) := by decide +kernel
theorem d6_13 : decode prog_20_method_12_code 13 = .ok (.putfield 41, 3) := by decide +kernel
theorem d6_16 : decode prog_20_method_12_code 16 = .ok (.return_, 1) := by decide +kernel
theorem d7_0 : decode prog_20_method_15_code 0 = .ok (.aload_n 0, 1) := by decide +kernel
theorem d7_1 : decode prog_20_method_15_code 1 = .ok (.aload_n 1, 1) := by decide +kernel
theorem d7_2 : decode prog_20_method_15_code 2 = .ok (.invokevirtual 71, 3) := by decide +kernel
theorem d7_5 : decode prog_20_method_15_code 5 = .ok (.istore_n 2, 1) := by decide +kernel
theorem d7_6 : decode prog_20_method_15_code 6 = .ok (.aload_n 0, 1) := by decide +kernel
theorem d7_7 : decode prog_20_method_15_code 7 = .ok (.getfield 23, 3) := by decide +kernel
theorem d7_10 : decode prog_20_method_15_code 10 = .ok (.iload_n 2, 1) := by decide +kernel
theorem d7_11 : decode prog_20_method_15_code 11 = .ok (.iaload, 1) := by decide +kernel
theorem d7_12 : decode prog_20_method_15_code 12 = .ok (.ifCond .eq 5, 3) := by decide +kernel
theorem d7_15 : decode prog_20_method_15_code 15 = .ok (.iconst 0, 1) := by decide +kernel
theorem d7_16 : decode prog_20_method_15_code 16 = .ok (.ireturn, 1) := by decide +kernel
theorem d7_17 : decode prog_20_method_15_code 17 = .ok (.aload_n 0, 1) := by decide +kernel
theorem d7_18 : decode prog_20_method_15_code 18 = .ok (.getfield 32, 3) := by decide +kernel
theorem d7_21 : decode prog_20_method_15_code 21 = .ok (.aload_n 0, 1) := by decide +kernel
theorem d7_22 : decode prog_20_method_15_code 22 = .ok (.getfield 7, 3) := by decide +kernel
theorem d7_25 : decode prog_20_method_15_code 25 = .ok (.imul, 1) := by decide +kernel
theorem d7_26 : decode prog_20_method_15_code 26 = .ok (.aload_n 0, 1) := by decide +kernel
theorem d7_27 : decode prog_20_method_15_code 27 = .ok (.getfield 7, 3) := by decide +kernel
theorem d7_30 : decode prog_20_method_15_code 30 = .ok (.iadd, 1) := by decide +kernel
theorem d7_31 : decode prog_20_method_15_code 31 = .ok (.aload_n 0, 1) := by decide +kernel
theorem d7_32 : decode prog_20_method_15_code 32 = .ok (.getfield 19, 3) := by decide +kernel
theorem d7_35 : decode prog_20_method_15_code 35 = .ok (.arraylength, 1) := by decide +kernel
theorem d7_36 : decode prog_20_method_15_code 36 = .ok (.if_icmp .le 21, 3) := by decide +kernel
theorem d7_39 : decode prog_20_method_15_code 39 = .ok (.aload_n 0, 1) := by decide +kernel
theorem d7_40 : decode prog_20_method_15_code 40 = .ok (.aload_n 0, 1) := by decide +kernel
theorem d7_41 : decode prog_20_method_15_code 41 = .ok (.getfield 19, 3) := by decide +kernel
theorem d7_44 : decode prog_20_method_15_code 44 = .ok (.aload_n 0, 1) := by decide +kernel
theorem d7_45 : decode prog_20_method_15_code 45 = .ok (.getfield 19, 3) := by decide +kernel
theorem d7_48 : decode prog_20_method_15_code 48 = .ok (.arraylength, 1) := by decide +kernel
theorem d7_49 : decode prog_20_method_15_code 49 = .ok (.iconst 2, 1) := by decide +kernel
theorem d7_50 : decode prog_20_method_15_code 50 = .ok (.imul, 1) := by decide +kernel
theorem d7_51 : decode prog_20_method_15_code 51 = .ok (.invokestatic 75, 3) := by decide +kernel
theorem d7_54 : decode prog_20_method_15_code 54 = .ok (.putfield 19, 3) := by decide +kernel
theorem d7_57 : decode prog_20_method_15_code 57 = .ok (.aload_n 1, 1) := by decide +kernel
theorem d7_58 : decode prog_20_method_15_code 58 = .ok (.iconst 0, 1) := by decide +kernel
theorem d7_59 : decode prog_20_method_15_code 59 = .ok (.aload_n 0, 1) := by decide +kernel
theorem d7_60 : decode prog_20_method_15_code 60 = .ok (.getfield 19, 3) := by decide +kernel
theorem d7_63 : decode prog_20_method_15_code 63 = .ok (.aload_n 0, 1) := by decide +kernel
theorem d7_64 : decode prog_20_method_15_code 64 = .ok (.getfield 32, 3) := by decide +kernel
theorem d7_67 : decode prog_20_method_15_code 67 = .ok (.aload_n 0, 1) := by decide +kernel
theorem d7_68 : decode prog_20_method_15_code 68 = .ok (.getfield 7, 3) := by decide +kernel
theorem d7_71 : decode prog_20_method_15_code 71 = .ok (.imul, 1) := by decide +kernel
theorem d7_72 : decode prog_20_method_15_code 72 = .ok (.aload_n 0, 1) := by decide +kernel
theorem d7_73 : decode prog_20_method_15_code 73 = .ok (.getfield 7, 3) := by decide +kernel
theorem d7_76 : decode prog_20_method_15_code 76 = .ok (.invokestatic 53, 3) := by decide +kernel
theorem d7_79 : decode prog_20_method_15_code 79 = .ok (.aload_n 0, 1) := by decide +kernel
theorem d7_80 : decode prog_20_method_15_code 80 = .ok (.getfield 23, 3) := by decide +kernel
theorem d7_83 : decode prog_20_method_15_code 83 = .ok (.iload_n 2, 1) := by decide +kernel
theorem d7_84 : decode prog_20_method_15_code 84 = .ok (.aload_n 0, 1) := by decide +kernel
theorem d7_85 : decode prog_20_method_15_code 85 = .ok (.getfield 32, 3) := by decide +kernel
theorem d7_88 : decode prog_20_method_15_code 88 = .ok (.iconst 1, 1) := by decide +kernel
theorem d7_89 : decode prog_20_method_15_code 89 = .ok (.iadd, 1) := by decide +kernel
theorem d7_90 : decode prog_20_method_15_code 90 = .ok (.iastore, 1) := by decide +kernel
theorem d7_91 : decode prog_20_method_15_code 91 = .ok (.iconst 0, 1) := by decide +kernel
theorem d7_92 : decode prog_20_method_15_code 92 = .ok (.istore_n 3, 1) := by decide +kernel
theorem d7_93 : decode prog_20_method_15_code 93 = .ok (.iload_n 3, 1) := by decide +kernel
theorem d7_94 : decode prog_20_method_15_code 94 = .ok (.aload_n 0, 1) := by decide +kernel
theorem d7_95 : decode prog_20_method_15_code 95 = .ok (.getfield 7, 3) := by decide +kernel
theorem d7_98 : decode prog_20_method_15_code 98 = .ok (.if_icmp .ge 34, 3) := by decide +kernel
theorem d7_101 : decode prog_20_method_15_code 101 = .ok (.aload_n 0, 1) := by decide +kernel
theorem d7_102 : decode prog_20_method_15_code 102 = .ok (.getfield 28, 3) := by decide +kernel
theorem d7_105 : decode prog_20_method_15_code 105 = .ok (.iload_n 3, 1) := by decide +kernel
theorem d7_106 : decode prog_20_method_15_code 106 = .ok (.aaload, 1) := by decide +kernel
theorem d7_107 : decode prog_20_method_15_code 107 = .ok (.ifnull 19, 3) := by decide +kernel
theorem d7_110 : decode prog_20_method_15_code 110 = .ok (.aload_n 0, 1) := by decide +kernel
theorem d7_111 : decode prog_20_method_15_code 111 = .ok (.getfield 28, 3) := by decide +kernel
theorem d7_114 : decode prog_20_method_15_code 114 = .ok (.iload_n 3, 1) := by decide +kernel
theorem d7_115 : decode prog_20_method_15_code 115 = .ok (.aaload, 1) := by decide +kernel
theorem d7_116 : decode prog_20_method_15_code 116 = .ok (.aload_n 1, 1) := by decide +kernel
theorem d7_117 : decode prog_20_method_15_code 117 = .ok (.iload_n 3, 1) := by decide +kernel
theorem d7_118 : decode prog_20_method_15_code 118 = .ok (.iaload, 1) := by decide +kernel
theorem d7_119 : decode prog_20_method_15_code 119 = .ok (.aload_n 0, 1) := by decide +kernel
theorem d7_120 : decode prog_20_method_15_code 120 = .ok (.getfield 32, 3) := by decide +kernel
theorem d7_123 : decode prog_20_method_15_code 123 = .ok (.invokevirtual 79, 3) := by decide +kernel
theorem d7_126 : decode prog_20_method_15_code 126 = .ok (.iinc 3 1, 3) := by decide +kernel
theorem d7_129 : decode prog_20_method_15_code 129 = .ok (.goto (-36), 3) := by decide +kernel
theorem d7_132 : decode prog_20_method_15_code 132 = .ok (.aload_n 0, 1) := by decide +kernel
theorem d7_133 : decode prog_20_method_15_code 133 = .ok (.dup, 1) := by decide +kernel
theorem d7_134 : decode prog_20_method_15_code 134 = .ok (.getfield 32, 3) := by decide +kernel
theorem d7_137 : decode prog_20_method_15_code 137 = .ok (.iconst 1, 1) := by decide +kernel
theorem d7_138 : decode prog_20_method_15_code 138 = .ok (.iadd, 1) := by decide +kernel
theorem d7_139 : decode prog_20_method_15_code 139 = .ok (.putfield 32, 3) := by decide +kernel
theorem d7_142 : decode prog_20_method_15_code 142 = .ok (.aload_n 0, 1) := by decide +kernel
theorem d7_143 : decode prog_20_method_15_code 143 = .ok (.getfield 32, 3) := by decide +kernel
theorem d7_146 : decode prog_20_method_15_code 146 = .ok (.iconst 2, 1) := by decide +kernel
theorem d7_147 : decode prog_20_method_15_code 147 = .ok (.imul, 1) := by decide +kernel
theorem d7_148 : decode prog_20_method_15_code 148 = .ok (.aload_n 0, 1) := by decide +kernel
theorem d7_149 : decode prog_20_method_15_code 149 = .ok (.getfield 23, 3) := by decide +kernel
theorem d7_152 : decode prog_20_method_15_code 152 = .ok (.arraylength, 1) := by decide +kernel
theorem d7_153 : decode prog_20_method_15_code 153 = .ok (.if_icmp .le 20, 3) := by decide +kernel
theorem d7_156 : decode prog_20_method_15_code 156 = .ok (.aload_n 0, 1) := by decide +kernel
theorem d7_157 : decode prog_20_method_15_code 157 = .ok (.aload_n 0, 1) := by decide +kernel
theorem d7_158 : decode prog_20_method_15_code 158 = .ok (.getfield 23, 3) := by decide +kernel
theorem d7_161 : decode prog_20_method_15_code 161 = .ok (.arraylength, 1) := by decide +kernel
theorem d7_162 : decode prog_20_method_15_code 162 = .ok (.iconst 2, 1) := by decide +kernel
theorem d7_163 : decode prog_20_method_15_code 163 = .ok (.imul, 1) := by decide +kernel
theorem d7_164 : decode prog_20_method_15_code 164 = .ok (.newarray .int, 2) := by decide +kernel
theorem d7_166 : decode prog_20_method_15_code 166 = .ok (.putfield 23, 3) := by decide +kernel
theorem d7_169 : decode prog_20_method_15_code 169 = .ok (.aload_n 0, 1) := by decide +kernel
theorem d7_170 : decode prog_20_method_15_code 170 = .ok (.invokevirtual 65, 3) := by decide +kernel
theorem d7_173 : decode prog_20_method_15_code 173 = .ok (.iconst 1, 1) := by decide +kernel
theorem d7_174 : decode prog_20_method_15_code 174 = .ok (.ireturn, 1) := by decide +kernel
theorem d8_0 : decode prog_20_method_17_code 0 = .ok (.aload_n 0, 1) := by decide +kernel
theorem d8_1 : decode prog_20_method_17_code 1 = .ok (.getfield 23, 3) := by decide +kernel
theorem d8_4 : decode prog_20_method_17_code 4 = .ok (.arraylength, 1) := by decide +kernel
theorem d8_5 : decode prog_20_method_17_code 5 = .ok (.iconst 1, 1) := by decide +kernel
theorem d8_6 : decode prog_20_method_17_code 6 = .ok (.isub, 1) := by decide +kernel
theorem d8_7 : decode prog_20_method_17_code 7 = .ok (.istore_n 2, 1) := by decide +kernel
theorem d8_8 : decode prog_20_method_17_code 8 = .ok (.aload_n 1, 1) := by decide +kernel
theorem d8_9 : decode prog_20_method_17_code 9 = .ok (.invokestatic 83, 3) := by decide +kernel
theorem d8_12 : decode prog_20_method_17_code 12 = .ok (.iload_n 2, 1) := by decide +kernel
theorem d8_13 : decode prog_20_method_17_code 13 = .ok (.iand, 1) := by decide +kernel
theorem d8_14 : decode prog_20_method_17_code 14 = .ok (.istore_n 3, 1) := by decide +kernel
theorem d8_15 : decode prog_20_method_17_code 15 = .ok (.aload_n 0, 1) := by decide +kernel
theorem d8_16 : decode prog_20_method_17_code 16 = .ok (.getfield 23, 3) := by decide +kernel
theorem d8_19 : decode prog_20_method_17_code 19 = .ok (.iload_n 3, 1) := by decide +kernel
theorem d8_20 : decode prog_20_method_17_code 20 = .ok (.iaload, 1) := by decide +kernel
theorem d8_21 : decode prog_20_method_17_code 21 = .ok (.ifCond .eq 28, 3) := by decide +kernel
theorem d8_24 : decode prog_20_method_17_code 24 = .ok (.aload_n 0, 1) := by decide +kernel
theorem d8_25 : decode prog_20_method_17_code 25 = .ok (.aload_n 0, 1) := by decide +kernel
theorem d8_26 : decode prog_20_method_17_code 26 = .ok (.getfield 23, 3) := by decide +kernel
theorem d8_29 : decode prog_20_method_17_code 29 = .ok (.iload_n 3, 1) := by decide +kernel
theorem d8_30 : decode prog_20_method_17_code 30 = .ok (.iaload, 1) := by decide +kernel
theorem d8_31 : decode prog_20_method_17_code 31 = .ok (.iconst 1, 1) := by decide +kernel
theorem d8_32 : decode prog_20_method_17_code 32 = .ok (.isub, 1) := by decide +kernel
theorem d8_33 : decode prog_20_method_17_code 33 = .ok (.aload_n 1, 1) := by decide +kernel
theorem d8_34 : decode prog_20_method_17_code 34 = .ok (.invokevirtual 86, 3) := by decide +kernel
theorem d8_37 : decode prog_20_method_17_code 37 = .ok (.ifCond .ne 12, 3) := by decide +kernel
theorem d8_40 : decode prog_20_method_17_code 40 = .ok (.iload_n 3, 1) := by decide +kernel
theorem d8_41 : decode prog_20_method_17_code 41 = .ok (.iconst 1, 1) := by decide +kernel
theorem d8_42 : decode prog_20_method_17_code 42 = .ok (.iadd, 1) := by decide +kernel
theorem d8_43 : decode prog_20_method_17_code 43 = .ok (.iload_n 2, 1) := by decide +kernel
theorem d8_44 : decode prog_20_method_17_code 44 = .ok (.iand, 1) := by decide +kernel
theorem d8_45 : decode prog_20_method_17_code 45 = .ok (.istore_n 3, 1) := by decide +kernel
theorem d8_46 : decode prog_20_method_17_code 46 = .ok (.goto (-31), 3) := by decide +kernel
theorem d8_49 : decode prog_20_method_17_code 49 = .ok (.iload_n 3, 1) := by decide +kernel
theorem d8_50 : decode prog_20_method_17_code 50 = .ok (.ireturn, 1) := by decide +kernel
theorem d9_0 : decode prog_20_method_21_code 0 = .ok (.iconst 0, 1) := by decide +kernel
theorem d9_1 : decode prog_20_method_21_code 1 = .ok (.istore_n 1, 1) := by decide +kernel
theorem d9_2 : decode prog_20_method_21_code 2 = .ok (.aload_n 0, 1) := by decide +kernel
theorem d9_3 : decode prog_20_method_21_code 3 = .ok (.astore_n 2, 1) := by decide +kernel
theorem d9_4 : decode prog_20_method_21_code 4 = .ok (.aload_n 2, 1) := by decide +kernel
theorem d9_5 : decode prog_20_method_21_code 5 = .ok (.arraylength, 1) := by decide +kernel
theorem d9_6 : decode prog_20_method_21_code 6 = .ok (.istore_n 3, 1) := by decide +kernel
theorem d9_7 : decode prog_20_method_21_code 7 = .ok (.iconst 0, 1) := by decide +kernel
theorem d9_8 : decode prog_20_method_21_code 8 = .ok (.istore 4, 2) := by decide +kernel
theorem d9_10 : decode prog_20_method_21_code 10 = .ok (.iload 4, 2) := by decide +kernel
theorem d9_12 : decode prog_20_method_21_code 12 = .ok (.iload_n 3, 1) := by decide +kernel
theorem d9_13 : decode prog_20_method_21_code 13 = .ok (.if_icmp .ge 23, 3) := by decide +kernel
theorem d9_16 : decode prog_20_method_21_code 16 = .ok (.aload_n 2, 1) := by decide +kernel
theorem d9_17 : decode prog_20_method_21_code 17 = .ok (.iload 4, 2) := by decide +kernel
theorem d9_19 : decode prog_20_method_21_code 19 = .ok (.iaload, 1) := by decide +kernel
theorem d9_20 : decode prog_20_method_21_code 20 = .ok (.istore 5, 2) := by decide +kernel
theorem d9_22 : decode prog_20_method_21_code 22 = .ok (.iload_n 1, 1) := by decide +kernel
theorem d9_23 : decode prog_20_method_21_code 23 = .ok (.iload 5, 2) := by decide +kernel
theorem d9_25 : decode prog_20_method_21_code 25 = .ok (.ixor, 1) := by decide +kernel
theorem d9_26 : decode prog_20_method_21_code 26 = .ok (.invokestatic 96, 3) := by decide +kernel
theorem d9_29 : decode prog_20_method_21_code 29 = .ok (.istore_n 1, 1) := by decide +kernel
theorem d9_30 : decode prog_20_method_21_code 30 = .ok (.iinc 4 1, 3) := by decide +kernel
theorem d9_33 : decode prog_20_method_21_code 33 = .ok (.goto (-23), 3) := by decide +kernel
theorem d9_36 : decode prog_20_method_21_code 36 = .ok (.iload_n 1, 1) := by decide +kernel
theorem d9_37 : decode prog_20_method_21_code 37 = .ok (.ireturn, 1) := by decide +kernel
theorem d10_0 : decode prog_20_method_22_code 0 = .ok (.iload_n 0, 1) := by decide +kernel
theorem d10_1 : decode prog_20_method_22_code 1 = .ok (.ldc 100, 2) := by decide +kernel
theorem d10_3 : decode prog_20_method_22_code 3 = .ok (.imul, 1) := by decide +kernel
theorem d10_4 : decode prog_20_method_22_code 4 = .ok (.istore_n 1, 1) := by decide +kernel
theorem d10_5 : decode prog_20_method_22_code 5 = .ok (.iload_n 1, 1) := by decide +kernel
theorem d10_6 : decode prog_20_method_22_code 6 = .ok (.iload_n 1, 1) := by decide +kernel
theorem d10_7 : decode prog_20_method_22_code 7 = .ok (.bipush 16, 2) := by decide +kernel
theorem d10_9 : decode prog_20_method_22_code 9 = .ok (.iushr, 1) := by decide +kernel
theorem d10_10 : decode prog_20_method_22_code 10 = .ok (.ixor, 1) := by decide +kernel
theorem d10_11 : decode prog_20_method_22_code 11 = .ok (.ireturn, 1) := by decide +kernel
theorem d11_0 : decode prog_20_method_19_code 0 = .ok (.iconst 0, 1) := by decide +kernel
theorem d11_1 : decode prog_20_method_19_code 1 = .ok (.istore_n 3, 1) := by decide +kernel
theorem d11_2 : decode prog_20_method_19_code 2 = .ok (.iload_n 3, 1) := by decide +kernel
theorem d11_3 : decode prog_20_method_19_code 3 = .ok (.aload_n 0, 1) := by decide +kernel
theorem d11_4 : decode prog_20_method_19_code 4 = .ok (.getfield 7, 3) := by decide +kernel
theorem d11_7 : decode prog_20_method_19_code 7 = .ok (.if_icmp .ge 30, 3) := by decide +kernel
theorem d11_10 : decode prog_20_method_19_code 10 = .ok (.aload_n 0, 1) := by decide +kernel
theorem d11_11 : decode prog_20_method_19_code 11 = .ok (.getfield 19, 3) := by decide +kernel
theorem d11_14 : decode prog_20_method_19_code 14 = .ok (.iload_n 1, 1) := by decide +kernel
theorem d11_15 : decode prog_20_method_19_code 15 = .ok (.aload_n 0, 1) := by decide +kernel
theorem d11_16 : decode prog_20_method_19_code 16 = .ok (.getfield 7, 3) := by decide +kernel
theorem d11_19 : decode prog_20_method_19_code 19 = .ok (.imul, 1) := by decide +kernel
theorem d11_20 : decode prog_20_method_19_code 20 = .ok (.iload_n 3, 1) := by decide +kernel
theorem d11_21 : decode prog_20_method_19_code 21 = .ok (.iadd, 1) := by decide +kernel
theorem d11_22 : decode prog_20_method_19_code 22 = .ok (.iaload, 1) := by decide +kernel
theorem d11_23 : decode prog_20_method_19_code 23 = .ok (.aload_n 2, 1) := by decide +kernel
theorem d11_24 : decode prog_20_method_19_code 24 = .ok (.iload_n 3, 1) := by decide +kernel
theorem d11_25 : decode prog_20_method_19_code 25 = .ok (.iaload, 1) := by decide +kernel
theorem d11_26 : decode prog_20_method_19_code 26 = .ok (.if_icmp .eq 5, 3) := by decide +kernel
theorem d11_29 : decode prog_20_method_19_code 29 = .ok (.iconst 0, 1) := by decide +kernel
theorem d11_30 : decode prog_20_method_19_code 30 = .ok (.ireturn, 1) := by decide +kernel
theorem d11_31 : decode prog_20_method_19_code 31 = .ok (.iinc 3 1, 3) := by decide +kernel
theorem d11_34 : decode prog_20_method_19_code 34 = .ok (.goto (-32), 3) := by decide +kernel
theorem d11_37 : decode prog_20_method_19_code 37 = .ok (.iconst 1, 1) := by decide +kernel
theorem d11_38 : decode prog_20_method_19_code 38 = .ok (.ireturn, 1) := by decide +kernel
theorem d12_0 : decode prog_20_method_8_code 0 = .ok (.aload_n 0, 1) := by decide +kernel
theorem d12_1 : decode prog_20_method_8_code 1 = .ok (.aload_n 0, 1) := by decide +kernel
theorem d12_2 : decode prog_20_method_8_code 2 = .ok (.getfield 41, 3) := by decide +kernel
theorem d12_5 : decode prog_20_method_8_code 5 = .ok (.putfield 38, 3) := by decide +kernel
theorem d12_8 : decode prog_20_method_8_code 8 = .ok (.aload_n 0, 1) := by decide +kernel
theorem d12_9 : decode prog_20_method_8_code 9 = .ok (.aload_n 0, 1) := by decide +kernel
theorem d12_10 : decode prog_20_method_8_code 10 = .ok (.getfield 32, 3) := by decide +kernel
theorem d12_13 : decode prog_20_method_8_code 13 = .ok (.putfield 41, 3) := by decide +kernel
theorem d12_16 : decode prog_20_method_8_code 16 = .ok (.return_, 1) := by decide +kernel
theorem pn0 : plainFor (⟨"com/example/ontology_to_datalog/ontologytodatalog/datalog/RelationHasDeltaPinLaw", "law", "(III)Z"⟩ : MethodName) = true := plainFor_of_name (by first | (simp [plainName, overriddenIn]; done) | decide +kernel)
theorem pn1 : plainFor (⟨"com/example/ontology_to_datalog/ontologytodatalog/datalog/Relation", "<init>", "(I)V"⟩ : MethodName) = true := plainFor_of_name (by first | (simp [plainName, overriddenIn]; done) | decide +kernel)
theorem pd1 : parseMethodDescriptor "(I)V" = some ⟨[.int], none⟩ := by decide +kernel
theorem pn3 : plainFor (⟨"java/lang/Math", "max", "(II)I"⟩ : MethodName) = true := Jvm.Free.JP.mathPlain rfl (by decide +kernel)
theorem pd3 : parseMethodDescriptor "(II)I" = some ⟨[.int, .int], some .int⟩ := by decide +kernel
theorem pn4 : plainFor (⟨"com/example/ontology_to_datalog/ontologytodatalog/datalog/Relation", "hasDelta", "()Z"⟩ : MethodName) = true := plainFor_of_name (by first | (simp [plainName, overriddenIn]; done) | decide +kernel)
theorem pd4 : parseMethodDescriptor "()Z" = some ⟨[], some .boolean⟩ := by decide +kernel
theorem pn5 : plainFor (⟨"com/example/ontology_to_datalog/ontologytodatalog/datalog/Relation", "markCertain", "()V"⟩ : MethodName) = true := plainFor_of_name (by first | (simp [plainName, overriddenIn]; done) | decide +kernel)
theorem pd5 : parseMethodDescriptor "()V" = some ⟨[], none⟩ := by decide +kernel
theorem pn6 : plainFor (⟨"com/example/ontology_to_datalog/ontologytodatalog/datalog/Relation", "makeUncertainDelta", "()V"⟩ : MethodName) = true := plainFor_of_name (by first | (simp [plainName, overriddenIn]; done) | decide +kernel)
theorem pd6 : parseMethodDescriptor "()V" = some ⟨[], none⟩ := by decide +kernel
theorem pn7 : plainFor (⟨"com/example/ontology_to_datalog/ontologytodatalog/datalog/Relation", "add", "([I)Z"⟩ : MethodName) = true := plainFor_of_name (by first | (simp [plainName, overriddenIn]; done) | decide +kernel)
theorem pd7 : parseMethodDescriptor "([I)Z" = some ⟨[(.array .int)], some .boolean⟩ := by decide +kernel
theorem pn8 : plainFor (⟨"com/example/ontology_to_datalog/ontologytodatalog/datalog/Relation", "slotOf", "([I)I"⟩ : MethodName) = true := plainFor_of_name (by first | (simp [plainName, overriddenIn]; done) | decide +kernel)
theorem pd8 : parseMethodDescriptor "([I)I" = some ⟨[(.array .int)], some .int⟩ := by decide +kernel
theorem pn9 : plainFor (⟨"com/example/ontology_to_datalog/ontologytodatalog/datalog/Relation", "hash", "([I)I"⟩ : MethodName) = true := plainFor_of_name (by first | (simp [plainName, overriddenIn]; done) | decide +kernel)
theorem pd9 : parseMethodDescriptor "([I)I" = some ⟨[(.array .int)], some .int⟩ := by decide +kernel
theorem pn10 : plainFor (⟨"com/example/ontology_to_datalog/ontologytodatalog/datalog/Relation", "spread", "(I)I"⟩ : MethodName) = true := plainFor_of_name (by first | (simp [plainName, overriddenIn]; done) | decide +kernel)
theorem pd10 : parseMethodDescriptor "(I)I" = some ⟨[.int], some .int⟩ := by decide +kernel
theorem pn11 : plainFor (⟨"com/example/ontology_to_datalog/ontologytodatalog/datalog/Relation", "matches", "(I[I)Z"⟩ : MethodName) = true := plainFor_of_name (by first | (simp [plainName, overriddenIn]; done) | decide +kernel)
theorem pd11 : parseMethodDescriptor "(I[I)Z" = some ⟨[.int, (.array .int)], some .boolean⟩ := by decide +kernel
theorem pn12 : plainFor (⟨"com/example/ontology_to_datalog/ontologytodatalog/datalog/Relation", "advance", "()V"⟩ : MethodName) = true := plainFor_of_name (by first | (simp [plainName, overriddenIn]; done) | decide +kernel)
theorem pd12 : parseMethodDescriptor "()V" = some ⟨[], none⟩ := by decide +kernel
def CK : oK
  | 0 => ("com/example/ontology_to_datalog/ontologytodatalog/datalog/Relation", [("com/example/ontology_to_datalog/ontologytodatalog/datalog/Relation", "arity", "I"), ("com/example/ontology_to_datalog/ontologytodatalog/datalog/Relation", "values", "[I"), ("com/example/ontology_to_datalog/ontologytodatalog/datalog/Relation", "size", "I"), ("com/example/ontology_to_datalog/ontologytodatalog/datalog/Relation", "slots", "[I"), ("com/example/ontology_to_datalog/ontologytodatalog/datalog/Relation", "indexes", "[Lcom/example/ontology_to_datalog/ontologytodatalog/datalog/Relation$ColumnIndex;"), ("com/example/ontology_to_datalog/ontologytodatalog/datalog/Relation", "stableEnd", "I"), ("com/example/ontology_to_datalog/ontologytodatalog/datalog/Relation", "deltaEnd", "I"), ("com/example/ontology_to_datalog/ontologytodatalog/datalog/Relation", "certainEnd", "I")])
  | _ => ("", [])
theorem kok0 {Z : State} {a0 : Array Value} (hw : ∀ d ∈ tables_1, d.before a0 Z = true) : oKOk Z a0 CK 0 := ⟨⟨⟨Or.inr (hw _ (List.mem_of_getElem? (i := 11) rfl)), .int, by decide⟩, ⟨⟨Or.inl (hw _ (List.mem_of_getElem? (i := 17) rfl)), (.array .int), by decide⟩, ⟨⟨Or.inl (hw _ (List.mem_of_getElem? (i := 39) rfl)), .int, by decide⟩, ⟨⟨Or.inl (hw _ (List.mem_of_getElem? (i := 19) rfl)), (.array .int), by decide⟩, ⟨⟨Or.inr (hw _ (List.mem_of_getElem? (i := 23) rfl)), (.array (.object "com/example/ontology_to_datalog/ontologytodatalog/datalog/Relation$ColumnIndex")), by decide⟩, ⟨⟨Or.inl (hw _ (List.mem_of_getElem? (i := 32) rfl)), .int, by decide⟩, ⟨⟨Or.inl (hw _ (List.mem_of_getElem? (i := 30) rfl)), .int, by decide⟩, ⟨⟨Or.inl (hw _ (List.mem_of_getElem? (i := 41) rfl)), .int, by decide⟩, trivial⟩⟩⟩⟩⟩⟩⟩⟩, oDistinct.of (by decide)⟩
theorem of_add (i j : Nat) : Int32.ofNat i + Int32.ofNat j = Int32.ofNat (i + j) := (Int32.ofNat_add i j).symm
theorem one_up (i : Nat) : Int32.ofNat i + Int32.ofInt 1 = Int32.ofNat (i + 1) := (Int32.ofNat_add i 1).symm
theorem lt_of {i j : Nat} (hi : i < 2147483648) (hj : j < 2147483648) : Int32.ofNat i < Int32.ofNat j ↔ i < j := by rw [Int32.lt_iff_toInt_lt, toInt_of hi, toInt_of hj]; omega
theorem eq_of {i j : Nat} (hi : i < 2147483648) (hj : j < 2147483648) : Int32.ofNat i = Int32.ofNat j ↔ i = j := by rw [← Int32.toInt_inj, toInt_of hi, toInt_of hj]; omega
theorem of_sub1 {i : Nat} (h : 0 < i) (h2 : i < 2147483648) : Int32.ofNat i - 1 = Int32.ofNat (i - 1) := by
  apply Int32.toInt_inj.mp
  have h3 := c_isub (Int32.ofNat i) 1
  have h4 := rng32 (Int32.ofNat i - 1)
  have e : (1 : Int32).toInt = 1 := rfl
  rw [toInt_of h2, e] at h3
  rw [toInt_of (show i - 1 < 2147483648 by omega)]; omega
theorem and_31 (x : Int32) : ∃ k, k < 32 ∧ x &&& 31 = Int32.ofNat k := ⟨u32 x % 32, by omega, i32_of ((u32_and x 31).trans (and31 _))⟩
theorem of_and31 {i : Nat} (h : i < 1000) : Int32.ofNat i &&& 31 = Int32.ofNat (i % 32) := i32_of (by rw [u32_and, u32_of i (by omega)]; exact and31 i)
def jmax (x y : Int32) : Int32 := if x < y then y else x
/-! the table of slots -/
def spr (v : Int32) : Int32 := (v * (-1640531527)) ^^^ jushr (v * (-1640531527)) 16
def prb (sn : Nat → Nat) (xs : Nat → Int32) (v : Int32) : Nat → Nat → Nat
  | 0, s => s
  | f + 1, s => if sn s = 0 then s else if xs (sn s - 1) = v then s else prb sn xs v f ((s + 1) % 32)
def Hit (sn : Nat → Nat) (xs : Nat → Int32) (v : Int32) (s : Nat) : Prop := sn s = 0 ∨ xs (sn s - 1) = v
theorem prb_lt {sn : Nat → Nat} {xs : Nat → Int32} {v : Int32} : ∀ {f s : Nat}, s < 32 → prb sn xs v f s < 32
  | 0, s, h => h
  | f + 1, s, h => by
    unfold prb
    split
    · exact h
    · split
      · exact h
      · exact prb_lt (Nat.mod_lt _ (by decide))
theorem prb_hit {sn : Nat → Nat} {xs : Nat → Int32} {v : Int32} : ∀ (d f s : Nat), s < 32 → d ≤ f → sn ((s + d) % 32) = 0 → Hit sn xs v (prb sn xs v f s)
  | 0, 0, s, hs, _, h => Or.inl (by rw [Nat.add_zero, Nat.mod_eq_of_lt hs] at h; exact h)
  | d + 1, 0, s, hs, hd, h => absurd hd (by omega)
  | d, f + 1, s, hs, hd, h => by
    unfold prb
    split
    · rename_i q; exact Or.inl q
    · split
      · rename_i q; exact Or.inr q
      · rename_i q _
        match d, hd, h with
        | 0, _, h => rw [Nat.add_zero, Nat.mod_eq_of_lt hs] at h; exact absurd h q
        | d + 1, hd, h => exact prb_hit d f _ (Nat.mod_lt _ (by decide)) (by omega) (by rw [show ((s + 1) % 32 + d) % 32 = (s + (d + 1)) % 32 by omega]; exact h)
theorem free_slot : ∀ (n : Nat) (ps : List Nat), ps.length < n → ∃ z, z < n ∧ z ∉ ps
  | 0, ps, h => absurd h (by omega)
  | n + 1, ps, h => by
    by_cases q : n ∈ ps
    · obtain ⟨z, hz, hzn⟩ := free_slot n (ps.filter (· ≠ n)) (by
        have : (ps.filter (· ≠ n)).length < ps.length := List.length_filter_lt_length_iff_exists.mpr ⟨n, q, by simp⟩
        omega)
      exact ⟨z, by omega, fun m => hzn (List.mem_filter.mpr ⟨m, by simp; omega⟩)⟩
    · exact ⟨n, by omega, q⟩
/-- what the two arrays hold: n tuples xs, their numbers (plus one) sn by slot, the slots in use ps -/
def Tab (vs ss : List Value) (n : Nat) (sn : Nat → Nat) (xs : Nat → Int32) (ps : List Nat) : Prop :=
  vs.length = 16 ∧ ss.length = 32 ∧ (∀ q, q < n → vs[q]? = some (.int (xs q))) ∧ (∀ p, p < 32 → ss[p]? = some (.int (Int32.ofNat (sn p))) ∧ sn p ≤ n) ∧ ps.length ≤ n ∧ ∀ p, p < 32 → sn p ≠ 0 → p ∈ ps
theorem Tab.hit {vs ss : List Value} {n : Nat} {sn : Nat → Nat} {xs : Nat → Int32} {ps : List Nat} (T : Tab vs ss n sn xs ps) (hn : n ≤ 7) (v : Int32) {s : Nat} (hs : s < 32) : Hit sn xs v (prb sn xs v 32 s) := by
  obtain ⟨h1, h2, h3, h4, h5, h6⟩ := T
  obtain ⟨z, hz, hzp⟩ := free_slot 8 ps (by omega)
  have h0 : sn z = 0 := Classical.byContradiction fun q => hzp (h6 z (by omega) q)
  by_cases q : s ≤ z
  · exact prb_hit (z - s) 32 s hs (by omega) (by rw [show (s + (z - s)) % 32 = z by omega]; exact h0)
  · exact prb_hit (z + 32 - s) 32 s hs (by omega) (by rw [show (s + (z + 32 - s)) % 32 = z by omega]; exact h0)
theorem Tab.add {vs ss : List Value} {n : Nat} {sn : Nat → Nat} {xs : Nat → Int32} {ps : List Nat} (T : Tab vs ss n sn xs ps) (hn : n < 16) (v : Int32) {p : Nat} (hp : p < 32) :
    Tab (vs.set n (.int v)) (ss.set p (.int (Int32.ofNat (n + 1)))) (n + 1) (fun j => if j = p then n + 1 else sn j) (fun j => if j = n then v else xs j) (p :: ps) := by
  obtain ⟨h1, h2, h3, h4, h5, h6⟩ := T
  refine ⟨by rw [List.length_set]; exact h1, by rw [List.length_set]; exact h2, fun q hq => ?_, fun q hq => ?_, by simp; omega, fun q hq hz => ?_⟩
  · by_cases e : q = n
    · subst e; dsimp only; rw [if_pos rfl]; exact List.getElem?_set_self (by omega)
    · dsimp only; rw [if_neg e, List.getElem?_set_ne (Ne.symm e)]; exact h3 q (by omega)
  · by_cases e : q = p
    · subst e; dsimp only; rw [if_pos rfl]; exact ⟨List.getElem?_set_self (by omega), Nat.le_refl _⟩
    · dsimp only; rw [if_neg e, List.getElem?_set_ne (Ne.symm e)]; exact ⟨(h4 q hq).1, Nat.le_succ_of_le (h4 q hq).2⟩
  · by_cases e : q = p
    · subst e; exact List.mem_cons_self ..
    · dsimp only at hz; rw [if_neg e] at hz; exact List.mem_cons_of_mem _ (h6 q hq hz)

theorem mmax {l : Launch} {Z : State} {a0 : Array Value} (hw : ∀ d ∈ tables_1, d.before a0 Z = true) {ρ : oM} {A : oH} (x y : Int32) : Met l Z CK ρ (⟨"java/lang/Math", "max", "(II)I"⟩ : MethodName) jdk_29_method_65_code 2 (some .int) ({ frames := 0, cells := 0, slots := 0, locals := 0 } : Room) [] [.int x, .int y] A (some (.int (jmax x y))) A := by
  refine Met.of (L0 := [.val (.int x), .val (.int y)]) pn3 (oentry rfl) rfl ?_
  refine Ends.st (b := (1, _, _, _, 0, 0)) (s_iloadN d3_0 rfl) ?_
  refine Ends.st (b := (2, _, _, _, 0, 0)) (s_iloadN d3_1 rfl) ?_
  refine Ends.icmp_lt (pc' := 9) d3_2 (by decide) (by decide) (fun h => ?_) (fun h => ?_)
  · skip
    rw [show jmax x y = y from if_pos h]
    refine Ends.st (b := (10, _, _, _, 0, 0)) (s_iloadN d3_9 rfl) ?_
    exact e_ireturn d3_10 rfl (by decide) (by decide)
  · skip
    rw [show jmax x y = x from if_neg h]
    refine Ends.st (b := (6, _, _, _, 0, 0)) (s_iloadN d3_5 rfl) ?_
    refine Ends.st (b := (10, _, _, _, 0, 0)) (s_goto d3_6 (by decide) (by decide)) ?_
    exact e_ireturn d3_10 rfl (by decide) (by decide)
theorem mspread {l : Launch} {Z : State} {a0 : Array Value} (hw : ∀ d ∈ tables_1, d.before a0 Z = true) {ρ : oM} {A : oH} (v : Int32) : Met l Z CK ρ (⟨"com/example/ontology_to_datalog/ontologytodatalog/datalog/Relation", "spread", "(I)I"⟩ : MethodName) prog_20_method_22_code 2 (some .int) ({ frames := 0, cells := 0, slots := 0, locals := 0 } : Room) [] [.int v] A (some (.int (spr v))) A := by
  refine Met.of (L0 := [.val (.int v), .unset]) pn10 (oentry rfl) rfl ?_
  refine Ends.st (b := (1, _, _, _, 0, 0)) (s_iloadN d10_0 rfl) ?_
  refine Ends.st (b := (3, _, _, _, 0, 0)) (s_ldc (hw _ (List.mem_of_getElem? (i := 62) rfl)) d10_1) ?_
  refine Ends.st (b := (4, _, _, _, 0, 0)) (s_imul d10_3) ?_
  refine Ends.st (b := (5, [_, _], _, _, 0, 0)) (s_istoreN d10_4 rfl) ?_
  refine Ends.st (b := (6, _, _, _, 0, 0)) (s_iloadN d10_5 rfl) ?_
  refine Ends.st (b := (7, _, _, _, 0, 0)) (s_iloadN d10_6 rfl) ?_
  refine Ends.st (b := (9, _, _, _, 0, 0)) (s_bipush (z := 16) d10_7 (by decide)) ?_
  refine Ends.st (b := (10, _, _, _, 0, 0)) (s_iushr d10_9) ?_
  refine Ends.st (b := (11, _, _, _, 0, 0)) (s_ixor d10_10) ?_
  exact e_ireturn d10_11 rfl (by decide) (by decide)
theorem mhash {l : Launch} {Z : State} {a0 : Array Value} (hw : ∀ d ∈ tables_1, d.before a0 Z = true) {ρ : oM} {A : oH} (i : Nat) (v : Int32) (hi : A[i]? = some (.inr (.int, [.int v]))) : Met l Z CK ρ (⟨"com/example/ontology_to_datalog/ontologytodatalog/datalog/Relation", "hash", "([I)I"⟩ : MethodName) prog_20_method_21_code 6 (some .int) ({ frames := 1, cells := 0, slots := 0, locals := 13 } : Room) [] [.ref i] A (some (.int (spr (0 ^^^ v)))) A := by
  refine Met.of (L0 := [.val (.ref i), .unset, .unset, .unset, .unset, .unset]) pn9 (oentry rfl) rfl ?_
  refine Ends.st (b := (1, _, _, _, 0, 0)) (s_iconst (z := 0) d9_0 rfl) ?_
  refine Ends.st (b := (2, [_, _, _, _, _, _], _, _, 0, 0)) (s_istoreN d9_1 rfl) ?_
  refine Ends.st (b := (3, _, _, _, 0, 0)) (s_aloadN d9_2 rfl rfl) ?_
  refine Ends.st (b := (4, [_, _, _, _, _, _], _, _, 0, 0)) (s_astoreN d9_3 rfl rfl) ?_
  refine Ends.st (b := (5, _, _, _, 0, 0)) (s_aloadN d9_4 rfl rfl) ?_
  refine Ends.st (b := (6, _, _, _, 0, 0)) (s_arraylength d9_5 hi) ?_
  refine Ends.st (b := (7, [_, _, _, _, _, _], _, _, 0, 0)) (s_istoreN d9_6 rfl) ?_
  refine Ends.st (b := (8, _, _, _, 0, 0)) (s_iconst (z := 0) d9_7 rfl) ?_
  refine Ends.st (b := (10, [_, _, _, _, _, _], _, _, 0, 0)) (s_istore d9_8 rfl) ?_
  refine Ends.st (b := (12, _, _, _, 0, 0)) (s_iload d9_10 rfl) ?_
  refine Ends.st (b := (13, _, _, _, 0, 0)) (s_iloadN d9_12 rfl) ?_
  refine Ends.st (b := (16, _, _, _, 0, 0)) (s_icmp_ge_f d9_13 (show (0 : Int32) < 1 by decide)) ?_
  refine Ends.st (b := (17, _, _, _, 0, 0)) (s_aloadN d9_16 rfl rfl) ?_
  refine Ends.st (b := (19, _, _, _, 0, 0)) (s_iload d9_17 rfl) ?_
  refine Ends.st (b := (20, _, _, _, 0, 0)) (s_iaload d9_19 hi (by decide) rfl) ?_
  refine Ends.st (b := (22, [_, _, _, _, _, _], _, _, 0, 0)) (s_istore d9_20 rfl) ?_
  refine Ends.st (b := (23, _, _, _, 0, 0)) (s_iloadN d9_22 rfl) ?_
  refine Ends.st (b := (25, _, _, _, 0, 0)) (s_iload d9_23 rfl) ?_
  refine Ends.st (b := (26, _, _, _, 0, 0)) (s_ixor d9_25) ?_
  refine Ends.st (b := (29, _, [_], _, 0, 0)) (s_callS (W := 0) (hw _ (List.mem_of_getElem? (i := 59) rfl)) (hw _ (List.mem_of_getElem? (i := 60) rfl)) (hw _ (List.mem_of_getElem? (i := 3) rfl)) (hw _ (List.mem_of_getElem? (i := 61) rfl)) (by decide) (lenOf pd10 rfl) d9_26 (mspread hw _) rfl rfl (by decide) (by decide) (by decide) (by decide)) ?_
  refine Ends.st (b := (30, [_, _, _, _, _, _], _, _, 0, 0)) (s_istoreN d9_29 rfl) ?_
  refine Ends.st (b := (33, [_, _, _, _, _, _], _, _, 0, 0)) (s_iinc (z' := 1) d9_30 rfl rfl rfl) ?_
  refine Ends.st (b := (10, _, _, _, 0, 0)) (s_goto d9_33 (by decide) (by decide)) ?_
  refine Ends.st (b := (12, _, _, _, 0, 0)) (s_iload d9_10 rfl) ?_
  refine Ends.st (b := (13, _, _, _, 0, 0)) (s_iloadN d9_12 rfl) ?_
  refine Ends.st (b := (36, _, _, _, 0, 0)) (s_icmp_ge_t d9_13 (show ¬ (1 : Int32) < 1 by decide) (by decide) (by decide)) ?_
  refine Ends.st (b := (37, _, _, _, 0, 0)) (s_iloadN d9_36 rfl) ?_
  exact e_ireturn d9_37 rfl (by decide) (by decide)
theorem mmatch1 {l : Launch} {Z : State} {a0 : Array Value} (hw : ∀ d ∈ tables_1, d.before a0 Z = true) {ρ : oM} {vs ss : List Value} {t0 t1 t2 t3 : oC} {n : Nat} {s d ce : Int32} (i q : Nat) (v x : Int32) (hq : q < 1000) (hi : (t0 :: t1 :: t2 :: t3 :: .inl (0, [.int 1, .ref 5, .int (Int32.ofNat n), .ref 6, .ref 7, .int s, .int d, .int ce]) :: .inr (.int, vs) :: .inr (.int, ss) :: .inr (.object "com/example/ontology_to_datalog/ontologytodatalog/datalog/Relation$ColumnIndex", [.null]) :: [])[i]? = some (.inr (.int, [.int v]))) (hx : vs[q]? = some (.int x)) (he : x = v) : Met l Z CK ρ (⟨"com/example/ontology_to_datalog/ontologytodatalog/datalog/Relation", "matches", "(I[I)Z"⟩ : MethodName) prog_20_method_19_code 4 (some .boolean) ({ frames := 0, cells := 0, slots := 0, locals := 0 } : Room) [] [.ref 4, .int (Int32.ofNat q), .ref i] (t0 :: t1 :: t2 :: t3 :: .inl (0, [.int 1, .ref 5, .int (Int32.ofNat n), .ref 6, .ref 7, .int s, .int d, .int ce]) :: .inr (.int, vs) :: .inr (.int, ss) :: .inr (.object "com/example/ontology_to_datalog/ontologytodatalog/datalog/Relation$ColumnIndex", [.null]) :: []) (some (.int 1)) (t0 :: t1 :: t2 :: t3 :: .inl (0, [.int 1, .ref 5, .int (Int32.ofNat n), .ref 6, .ref 7, .int s, .int d, .int ce]) :: .inr (.int, vs) :: .inr (.int, ss) :: .inr (.object "com/example/ontology_to_datalog/ontologytodatalog/datalog/Relation$ColumnIndex", [.null]) :: []) := by
  refine Met.of (L0 := [.val (.ref 4), .val (.int (Int32.ofNat q)), .val (.ref i), .unset]) pn11 (oentry rfl) rfl ?_
  refine Ends.st (b := (1, _, _, _, 0, 0)) (s_iconst (z := 0) d11_0 rfl) ?_
  refine Ends.st (b := (2, [_, _, _, _], _, _, 0, 0)) (s_istoreN d11_1 rfl) ?_
  refine Ends.st (b := (3, _, _, _, 0, 0)) (s_iloadN d11_2 rfl) ?_
  refine Ends.st (b := (4, _, _, _, 0, 0)) (s_aloadN d11_3 rfl rfl) ?_
  refine Ends.st (b := (7, _, _, _, 0, 0)) (s_getfield (cid := 0) (i := 0) (hw _ (List.mem_of_getElem? (i := 10) rfl)) rfl d11_4 rfl rfl) ?_
  refine Ends.st (b := (10, _, _, _, 0, 0)) (s_icmp_ge_f d11_7 (by decide)) ?_
  refine Ends.st (b := (11, _, _, _, 0, 0)) (s_aloadN d11_10 rfl rfl) ?_
  refine Ends.st (b := (14, _, _, _, 0, 0)) (s_getfield (cid := 0) (i := 1) (hw _ (List.mem_of_getElem? (i := 16) rfl)) rfl d11_11 rfl rfl) ?_
  refine Ends.st (b := (15, _, _, _, 0, 0)) (s_iloadN d11_14 rfl) ?_
  refine Ends.st (b := (16, _, _, _, 0, 0)) (s_aloadN d11_15 rfl rfl) ?_
  refine Ends.st (b := (19, _, _, _, 0, 0)) (s_getfield (cid := 0) (i := 0) (hw _ (List.mem_of_getElem? (i := 10) rfl)) rfl d11_16 rfl rfl) ?_
  refine Ends.st (b := (20, _, _, _, 0, 0)) (s_imul d11_19) ?_
  refine Ends.st (b := (21, _, _, _, 0, 0)) (s_iloadN d11_20 rfl) ?_
  refine Ends.st (b := (22, _, _, _, 0, 0)) (s_iadd d11_21) ?_
  rw [Int32.mul_one, Int32.add_zero]
  refine Ends.st (b := (23, _, _, _, 0, 0)) (s_iaload d11_22 rfl (nneg_of (by omega)) (by rw [tnc_of (by omega)]; exact hx)) ?_
  refine Ends.st (b := (24, _, _, _, 0, 0)) (s_aloadN d11_23 rfl rfl) ?_
  refine Ends.st (b := (25, _, _, _, 0, 0)) (s_iloadN d11_24 rfl) ?_
  refine Ends.st (b := (26, _, _, _, 0, 0)) (s_iaload d11_25 hi (by decide) rfl) ?_
  refine Ends.st (b := (31, _, _, _, 0, 0)) (s_icmp_eq_t d11_26 he (by decide) (by decide)) ?_
  refine Ends.st (b := (34, [_, _, _, _], _, _, 0, 0)) (s_iinc (z' := 1) d11_31 rfl rfl rfl) ?_
  refine Ends.st (b := (2, _, _, _, 0, 0)) (s_goto d11_34 (by decide) (by decide)) ?_
  refine Ends.st (b := (3, _, _, _, 0, 0)) (s_iloadN d11_2 rfl) ?_
  refine Ends.st (b := (4, _, _, _, 0, 0)) (s_aloadN d11_3 rfl rfl) ?_
  refine Ends.st (b := (7, _, _, _, 0, 0)) (s_getfield (cid := 0) (i := 0) (hw _ (List.mem_of_getElem? (i := 10) rfl)) rfl d11_4 rfl rfl) ?_
  refine Ends.st (b := (37, _, _, _, 0, 0)) (s_icmp_ge_t d11_7 (by decide) (by decide) (by decide)) ?_
  refine Ends.st (b := (38, _, _, _, 0, 0)) (s_iconst (z := 1) d11_37 rfl) ?_
  exact e_nreturn d11_38 rfl (by simp) rfl (by decide) (by decide)
theorem mmatch0 {l : Launch} {Z : State} {a0 : Array Value} (hw : ∀ d ∈ tables_1, d.before a0 Z = true) {ρ : oM} {vs ss : List Value} {t0 t1 t2 t3 : oC} {n : Nat} {s d ce : Int32} (i q : Nat) (v x : Int32) (hq : q < 1000) (hi : (t0 :: t1 :: t2 :: t3 :: .inl (0, [.int 1, .ref 5, .int (Int32.ofNat n), .ref 6, .ref 7, .int s, .int d, .int ce]) :: .inr (.int, vs) :: .inr (.int, ss) :: .inr (.object "com/example/ontology_to_datalog/ontologytodatalog/datalog/Relation$ColumnIndex", [.null]) :: [])[i]? = some (.inr (.int, [.int v]))) (hx : vs[q]? = some (.int x)) (he : ¬ x = v) : Met l Z CK ρ (⟨"com/example/ontology_to_datalog/ontologytodatalog/datalog/Relation", "matches", "(I[I)Z"⟩ : MethodName) prog_20_method_19_code 4 (some .boolean) ({ frames := 0, cells := 0, slots := 0, locals := 0 } : Room) [] [.ref 4, .int (Int32.ofNat q), .ref i] (t0 :: t1 :: t2 :: t3 :: .inl (0, [.int 1, .ref 5, .int (Int32.ofNat n), .ref 6, .ref 7, .int s, .int d, .int ce]) :: .inr (.int, vs) :: .inr (.int, ss) :: .inr (.object "com/example/ontology_to_datalog/ontologytodatalog/datalog/Relation$ColumnIndex", [.null]) :: []) (some (.int 0)) (t0 :: t1 :: t2 :: t3 :: .inl (0, [.int 1, .ref 5, .int (Int32.ofNat n), .ref 6, .ref 7, .int s, .int d, .int ce]) :: .inr (.int, vs) :: .inr (.int, ss) :: .inr (.object "com/example/ontology_to_datalog/ontologytodatalog/datalog/Relation$ColumnIndex", [.null]) :: []) := by
  refine Met.of (L0 := [.val (.ref 4), .val (.int (Int32.ofNat q)), .val (.ref i), .unset]) pn11 (oentry rfl) rfl ?_
  refine Ends.st (b := (1, _, _, _, 0, 0)) (s_iconst (z := 0) d11_0 rfl) ?_
  refine Ends.st (b := (2, [_, _, _, _], _, _, 0, 0)) (s_istoreN d11_1 rfl) ?_
  refine Ends.st (b := (3, _, _, _, 0, 0)) (s_iloadN d11_2 rfl) ?_
  refine Ends.st (b := (4, _, _, _, 0, 0)) (s_aloadN d11_3 rfl rfl) ?_
  refine Ends.st (b := (7, _, _, _, 0, 0)) (s_getfield (cid := 0) (i := 0) (hw _ (List.mem_of_getElem? (i := 10) rfl)) rfl d11_4 rfl rfl) ?_
  refine Ends.st (b := (10, _, _, _, 0, 0)) (s_icmp_ge_f d11_7 (by decide)) ?_
  refine Ends.st (b := (11, _, _, _, 0, 0)) (s_aloadN d11_10 rfl rfl) ?_
  refine Ends.st (b := (14, _, _, _, 0, 0)) (s_getfield (cid := 0) (i := 1) (hw _ (List.mem_of_getElem? (i := 16) rfl)) rfl d11_11 rfl rfl) ?_
  refine Ends.st (b := (15, _, _, _, 0, 0)) (s_iloadN d11_14 rfl) ?_
  refine Ends.st (b := (16, _, _, _, 0, 0)) (s_aloadN d11_15 rfl rfl) ?_
  refine Ends.st (b := (19, _, _, _, 0, 0)) (s_getfield (cid := 0) (i := 0) (hw _ (List.mem_of_getElem? (i := 10) rfl)) rfl d11_16 rfl rfl) ?_
  refine Ends.st (b := (20, _, _, _, 0, 0)) (s_imul d11_19) ?_
  refine Ends.st (b := (21, _, _, _, 0, 0)) (s_iloadN d11_20 rfl) ?_
  refine Ends.st (b := (22, _, _, _, 0, 0)) (s_iadd d11_21) ?_
  rw [Int32.mul_one, Int32.add_zero]
  refine Ends.st (b := (23, _, _, _, 0, 0)) (s_iaload d11_22 rfl (nneg_of (by omega)) (by rw [tnc_of (by omega)]; exact hx)) ?_
  refine Ends.st (b := (24, _, _, _, 0, 0)) (s_aloadN d11_23 rfl rfl) ?_
  refine Ends.st (b := (25, _, _, _, 0, 0)) (s_iloadN d11_24 rfl) ?_
  refine Ends.st (b := (26, _, _, _, 0, 0)) (s_iaload d11_25 hi (by decide) rfl) ?_
  refine Ends.st (b := (29, _, _, _, 0, 0)) (s_icmp_eq_f d11_26 he) ?_
  refine Ends.st (b := (30, _, _, _, 0, 0)) (s_iconst (z := 0) d11_29 rfl) ?_
  exact e_nreturn d11_30 rfl (by simp) rfl (by decide) (by decide)
theorem slotLoop {l : Launch} {Z : State} {a0 : Array Value} (hw : ∀ d ∈ tables_1, d.before a0 Z = true) {ρ : oM} {vs ss : List Value} {t0 t1 t2 t3 : oC} {n : Nat} {s d ce : Int32} {sn : Nat → Nat} {xs : Nat → Int32} {ps : List Nat} (T : Tab vs ss n sn xs ps) (hn : n ≤ 7) (i : Nat) (v : Int32) (hi : (t0 :: t1 :: t2 :: t3 :: .inl (0, [.int 1, .ref 5, .int (Int32.ofNat n), .ref 6, .ref 7, .int s, .int d, .int ce]) :: .inr (.int, vs) :: .inr (.int, ss) :: .inr (.object "com/example/ontology_to_datalog/ontologytodatalog/datalog/Relation$ColumnIndex", [.null]) :: [])[i]? = some (.inr (.int, [.int v]))) : ∀ (f k : Nat), k < 32 → Hit sn xs v (prb sn xs v f k) → Ends l Z CK ρ "com/example/ontology_to_datalog/ontologytodatalog/datalog/Relation" "slotOf" prog_20_method_17_code 4 ({ frames := 2, cells := 0, slots := 0, locals := 30 } : Room) (some .int) (15, [.val (.ref 4), .val (.ref i), .val (.int 31), .val (.int (Int32.ofNat k))], [], (t0 :: t1 :: t2 :: t3 :: .inl (0, [.int 1, .ref 5, .int (Int32.ofNat n), .ref 6, .ref 7, .int s, .int d, .int ce]) :: .inr (.int, vs) :: .inr (.int, ss) :: .inr (.object "com/example/ontology_to_datalog/ontologytodatalog/datalog/Relation$ColumnIndex", [.null]) :: []), 0, 0) (some (.int (Int32.ofNat (prb sn xs v f k)))) (t0 :: t1 :: t2 :: t3 :: .inl (0, [.int 1, .ref 5, .int (Int32.ofNat n), .ref 6, .ref 7, .int s, .int d, .int ce]) :: .inr (.int, vs) :: .inr (.int, ss) :: .inr (.object "com/example/ontology_to_datalog/ontologytodatalog/datalog/Relation$ColumnIndex", [.null]) :: []) := by
  obtain ⟨h1, h2, h3, h4, h5, h6⟩ := T
  have exit0 : ∀ k, k < 32 → sn k = 0 → Ends l Z CK ρ "com/example/ontology_to_datalog/ontologytodatalog/datalog/Relation" "slotOf" prog_20_method_17_code 4 ({ frames := 2, cells := 0, slots := 0, locals := 30 } : Room) (some .int) (15, [.val (.ref 4), .val (.ref i), .val (.int 31), .val (.int (Int32.ofNat k))], [], (t0 :: t1 :: t2 :: t3 :: .inl (0, [.int 1, .ref 5, .int (Int32.ofNat n), .ref 6, .ref 7, .int s, .int d, .int ce]) :: .inr (.int, vs) :: .inr (.int, ss) :: .inr (.object "com/example/ontology_to_datalog/ontologytodatalog/datalog/Relation$ColumnIndex", [.null]) :: []), 0, 0) (some (.int (Int32.ofNat k))) (t0 :: t1 :: t2 :: t3 :: .inl (0, [.int 1, .ref 5, .int (Int32.ofNat n), .ref 6, .ref 7, .int s, .int d, .int ce]) :: .inr (.int, vs) :: .inr (.int, ss) :: .inr (.object "com/example/ontology_to_datalog/ontologytodatalog/datalog/Relation$ColumnIndex", [.null]) :: []) := by
    intro k hk h0
    refine Ends.st (b := (16, _, _, _, 0, 0)) (s_aloadN d8_15 rfl rfl) ?_
    refine Ends.st (b := (19, _, _, _, 0, 0)) (s_getfield (cid := 0) (i := 3) (hw _ (List.mem_of_getElem? (i := 18) rfl)) rfl d8_16 rfl rfl) ?_
    refine Ends.st (b := (20, _, _, _, 0, 0)) (s_iloadN d8_19 rfl) ?_
    refine Ends.st (b := (21, _, _, _, 0, 0)) (s_iaload d8_20 rfl (nneg_of (by omega)) (by rw [tnc_of (by omega)]; exact (h4 k hk).1)) ?_
    refine Ends.st (b := (49, _, _, _, 0, 0)) (s_if_eq_t d8_21 (by rw [h0]; rfl) (by decide) (by decide)) ?_
    refine Ends.st (b := (50, _, _, _, 0, 0)) (s_iloadN d8_49 rfl) ?_
    exact e_ireturn d8_50 rfl (by decide) (by decide)
  have exit1 : ∀ k, k < 32 → ¬ sn k = 0 → xs (sn k - 1) = v → Ends l Z CK ρ "com/example/ontology_to_datalog/ontologytodatalog/datalog/Relation" "slotOf" prog_20_method_17_code 4 ({ frames := 2, cells := 0, slots := 0, locals := 30 } : Room) (some .int) (15, [.val (.ref 4), .val (.ref i), .val (.int 31), .val (.int (Int32.ofNat k))], [], (t0 :: t1 :: t2 :: t3 :: .inl (0, [.int 1, .ref 5, .int (Int32.ofNat n), .ref 6, .ref 7, .int s, .int d, .int ce]) :: .inr (.int, vs) :: .inr (.int, ss) :: .inr (.object "com/example/ontology_to_datalog/ontologytodatalog/datalog/Relation$ColumnIndex", [.null]) :: []), 0, 0) (some (.int (Int32.ofNat k))) (t0 :: t1 :: t2 :: t3 :: .inl (0, [.int 1, .ref 5, .int (Int32.ofNat n), .ref 6, .ref 7, .int s, .int d, .int ce]) :: .inr (.int, vs) :: .inr (.int, ss) :: .inr (.object "com/example/ontology_to_datalog/ontologytodatalog/datalog/Relation$ColumnIndex", [.null]) :: []) := by
    intro k hk h0 hx
    have hle := (h4 k hk).2
    refine Ends.st (b := (16, _, _, _, 0, 0)) (s_aloadN d8_15 rfl rfl) ?_
    refine Ends.st (b := (19, _, _, _, 0, 0)) (s_getfield (cid := 0) (i := 3) (hw _ (List.mem_of_getElem? (i := 18) rfl)) rfl d8_16 rfl rfl) ?_
    refine Ends.st (b := (20, _, _, _, 0, 0)) (s_iloadN d8_19 rfl) ?_
    refine Ends.st (b := (21, _, _, _, 0, 0)) (s_iaload d8_20 rfl (nneg_of (by omega)) (by rw [tnc_of (by omega)]; exact (h4 k hk).1)) ?_
    refine Ends.st (b := (24, _, _, _, 0, 0)) (s_if_eq_f d8_21 (fun z => h0 ((eq_of (j := 0) (by omega) (by omega)).mp z))) ?_
    refine Ends.st (b := (25, _, _, _, 0, 0)) (s_aloadN d8_24 rfl rfl) ?_
    refine Ends.st (b := (26, _, _, _, 0, 0)) (s_aloadN d8_25 rfl rfl) ?_
    refine Ends.st (b := (29, _, _, _, 0, 0)) (s_getfield (cid := 0) (i := 3) (hw _ (List.mem_of_getElem? (i := 18) rfl)) rfl d8_26 rfl rfl) ?_
    refine Ends.st (b := (30, _, _, _, 0, 0)) (s_iloadN d8_29 rfl) ?_
    refine Ends.st (b := (31, _, _, _, 0, 0)) (s_iaload d8_30 rfl (nneg_of (by omega)) (by rw [tnc_of (by omega)]; exact (h4 k hk).1)) ?_
    refine Ends.st (b := (32, _, _, _, 0, 0)) (s_iconst (z := 1) d8_31 rfl) ?_
    refine Ends.st (b := (33, _, _, _, 0, 0)) (s_isub d8_32) ?_
    rw [of_sub1 (by omega) (by omega)]
    refine Ends.st (b := (34, _, _, _, 0, 0)) (s_aloadN d8_33 rfl rfl) ?_
    refine Ends.st (b := (37, _, [_], _, 0, 0)) (s_callP (W := 0) (cid := 0) (hw _ (List.mem_of_getElem? (i := 67) rfl)) (hw _ (List.mem_of_getElem? (i := 68) rfl)) (hw _ (List.mem_of_getElem? (i := 3) rfl)) (hw _ (List.mem_of_getElem? (i := 70) rfl)) (hw _ (List.mem_of_getElem? (i := 69) rfl)) (hw _ (List.mem_of_getElem? (i := 2) rfl)) (by decide) (lenOf pd11 rfl) d8_34 rfl (mmatch1 hw i (sn k - 1) v _ (by omega) hi (h3 _ (by omega)) hx) rfl rfl (by decide) (by decide) (by decide) (by decide)) ?_
    refine Ends.st (b := (49, _, _, _, 0, 0)) (s_if_ne_t d8_37 (by decide) (by decide) (by decide)) ?_
    refine Ends.st (b := (50, _, _, _, 0, 0)) (s_iloadN d8_49 rfl) ?_
    exact e_ireturn d8_50 rfl (by decide) (by decide)
  have turn : ∀ k, k < 32 → ¬ sn k = 0 → ¬ xs (sn k - 1) = v → Sim l Z CK ρ "com/example/ontology_to_datalog/ontologytodatalog/datalog/Relation" "slotOf" prog_20_method_17_code 4 ({ frames := 2, cells := 0, slots := 0, locals := 30 } : Room) (15, [.val (.ref 4), .val (.ref i), .val (.int 31), .val (.int (Int32.ofNat k))], [], (t0 :: t1 :: t2 :: t3 :: .inl (0, [.int 1, .ref 5, .int (Int32.ofNat n), .ref 6, .ref 7, .int s, .int d, .int ce]) :: .inr (.int, vs) :: .inr (.int, ss) :: .inr (.object "com/example/ontology_to_datalog/ontologytodatalog/datalog/Relation$ColumnIndex", [.null]) :: []), 0, 0) (15, [.val (.ref 4), .val (.ref i), .val (.int 31), .val (.int (Int32.ofNat ((k + 1) % 32)))], [], (t0 :: t1 :: t2 :: t3 :: .inl (0, [.int 1, .ref 5, .int (Int32.ofNat n), .ref 6, .ref 7, .int s, .int d, .int ce]) :: .inr (.int, vs) :: .inr (.int, ss) :: .inr (.object "com/example/ontology_to_datalog/ontologytodatalog/datalog/Relation$ColumnIndex", [.null]) :: []), 0, 0) := by
    intro k hk h0 hx
    have hle := (h4 k hk).2
    refine Sim.tr (b := (16, _, _, _, 0, 0)) (s_aloadN d8_15 rfl rfl) ?_
    refine Sim.tr (b := (19, _, _, _, 0, 0)) (s_getfield (cid := 0) (i := 3) (hw _ (List.mem_of_getElem? (i := 18) rfl)) rfl d8_16 rfl rfl) ?_
    refine Sim.tr (b := (20, _, _, _, 0, 0)) (s_iloadN d8_19 rfl) ?_
    refine Sim.tr (b := (21, _, _, _, 0, 0)) (s_iaload d8_20 rfl (nneg_of (by omega)) (by rw [tnc_of (by omega)]; exact (h4 k hk).1)) ?_
    refine Sim.tr (b := (24, _, _, _, 0, 0)) (s_if_eq_f d8_21 (fun z => h0 ((eq_of (j := 0) (by omega) (by omega)).mp z))) ?_
    refine Sim.tr (b := (25, _, _, _, 0, 0)) (s_aloadN d8_24 rfl rfl) ?_
    refine Sim.tr (b := (26, _, _, _, 0, 0)) (s_aloadN d8_25 rfl rfl) ?_
    refine Sim.tr (b := (29, _, _, _, 0, 0)) (s_getfield (cid := 0) (i := 3) (hw _ (List.mem_of_getElem? (i := 18) rfl)) rfl d8_26 rfl rfl) ?_
    refine Sim.tr (b := (30, _, _, _, 0, 0)) (s_iloadN d8_29 rfl) ?_
    refine Sim.tr (b := (31, _, _, _, 0, 0)) (s_iaload d8_30 rfl (nneg_of (by omega)) (by rw [tnc_of (by omega)]; exact (h4 k hk).1)) ?_
    refine Sim.tr (b := (32, _, _, _, 0, 0)) (s_iconst (z := 1) d8_31 rfl) ?_
    refine Sim.tr (b := (33, _, _, _, 0, 0)) (s_isub d8_32) ?_
    rw [of_sub1 (by omega) (by omega)]
    refine Sim.tr (b := (34, _, _, _, 0, 0)) (s_aloadN d8_33 rfl rfl) ?_
    refine Sim.tr (b := (37, _, [_], _, 0, 0)) (s_callP (W := 0) (cid := 0) (hw _ (List.mem_of_getElem? (i := 67) rfl)) (hw _ (List.mem_of_getElem? (i := 68) rfl)) (hw _ (List.mem_of_getElem? (i := 3) rfl)) (hw _ (List.mem_of_getElem? (i := 70) rfl)) (hw _ (List.mem_of_getElem? (i := 69) rfl)) (hw _ (List.mem_of_getElem? (i := 2) rfl)) (by decide) (lenOf pd11 rfl) d8_34 rfl (mmatch0 hw i (sn k - 1) v _ (by omega) hi (h3 _ (by omega)) hx) rfl rfl (by decide) (by decide) (by decide) (by decide)) ?_
    refine Sim.tr (b := (40, _, _, _, 0, 0)) (s_if_ne_f d8_37 rfl) ?_
    refine Sim.tr (b := (41, _, _, _, 0, 0)) (s_iloadN d8_40 rfl) ?_
    refine Sim.tr (b := (42, _, _, _, 0, 0)) (s_iconst (z := 1) d8_41 rfl) ?_
    refine Sim.tr (b := (43, _, _, _, 0, 0)) (s_iadd d8_42) ?_
    refine Sim.tr (b := (44, _, _, _, 0, 0)) (s_iloadN d8_43 rfl) ?_
    refine Sim.tr (b := (45, _, _, _, 0, 0)) (s_iand d8_44) ?_
    rw [show Int32.ofNat k + 1 = Int32.ofNat (k + 1) from of_add k 1, of_and31 (by omega)]
    refine Sim.tr (b := (46, [_, _, _, _], _, _, 0, 0)) (s_istoreN d8_45 rfl) ?_
    refine Sim.tr (b := (15, _, _, _, 0, 0)) (s_goto d8_46 (by decide) (by decide)) ?_
    exact Sim.rf _
  intro f
  induction f with
  | zero =>
    intro k hk hit
    show Ends _ _ _ _ _ _ _ _ _ _ _ (some (.int (Int32.ofNat k))) _
    by_cases h0 : sn k = 0
    · exact exit0 k hk h0
    · exact exit1 k hk h0 (hit.resolve_left h0)
  | succ f ih =>
    intro k hk hit
    unfold prb at hit ⊢
    by_cases h0 : sn k = 0
    · rw [if_pos h0]; exact exit0 k hk h0
    · rw [if_neg h0] at hit ⊢
      by_cases hx : xs (sn k - 1) = v
      · rw [if_pos hx]; exact exit1 k hk h0 hx
      · rw [if_neg hx] at hit ⊢
        exact Ends.st (turn k hk h0 hx) (ih _ (Nat.mod_lt _ (by decide)) hit)
def h31 (v : Int32) : Nat := u32 (spr (0 ^^^ v)) % 32
theorem h31_ok (v : Int32) : spr (0 ^^^ v) &&& 31 = Int32.ofNat (h31 v) := i32_of ((u32_and _ 31).trans (and31 _))
theorem h31_lt (v : Int32) : h31 v < 32 := Nat.mod_lt _ (by decide)
theorem mslot {l : Launch} {Z : State} {a0 : Array Value} (hw : ∀ d ∈ tables_1, d.before a0 Z = true) {ρ : oM} {vs ss : List Value} {t0 t1 t2 t3 : oC} {n : Nat} {s d ce : Int32} {sn : Nat → Nat} {xs : Nat → Int32} {ps : List Nat} (T : Tab vs ss n sn xs ps) (hn : n ≤ 7) (i : Nat) (v : Int32) (hi : (t0 :: t1 :: t2 :: t3 :: .inl (0, [.int 1, .ref 5, .int (Int32.ofNat n), .ref 6, .ref 7, .int s, .int d, .int ce]) :: .inr (.int, vs) :: .inr (.int, ss) :: .inr (.object "com/example/ontology_to_datalog/ontologytodatalog/datalog/Relation$ColumnIndex", [.null]) :: [])[i]? = some (.inr (.int, [.int v]))) : Met l Z CK ρ (⟨"com/example/ontology_to_datalog/ontologytodatalog/datalog/Relation", "slotOf", "([I)I"⟩ : MethodName) prog_20_method_17_code 4 (some .int) ({ frames := 2, cells := 0, slots := 0, locals := 30 } : Room) [] [.ref 4, .ref i] (t0 :: t1 :: t2 :: t3 :: .inl (0, [.int 1, .ref 5, .int (Int32.ofNat n), .ref 6, .ref 7, .int s, .int d, .int ce]) :: .inr (.int, vs) :: .inr (.int, ss) :: .inr (.object "com/example/ontology_to_datalog/ontologytodatalog/datalog/Relation$ColumnIndex", [.null]) :: []) (some (.int (Int32.ofNat (prb sn xs v 32 (h31 v))))) (t0 :: t1 :: t2 :: t3 :: .inl (0, [.int 1, .ref 5, .int (Int32.ofNat n), .ref 6, .ref 7, .int s, .int d, .int ce]) :: .inr (.int, vs) :: .inr (.int, ss) :: .inr (.object "com/example/ontology_to_datalog/ontologytodatalog/datalog/Relation$ColumnIndex", [.null]) :: []) := by
  have hE := slotLoop (l := l) (ρ := ρ) hw (s := s) (d := d) (ce := ce) T hn i v hi 32 (h31 v) (h31_lt v) (T.hit hn v (h31_lt v))
  obtain ⟨h1, h2, h3, h4, h5, h6⟩ := T
  refine Met.of (L0 := [.val (.ref 4), .val (.ref i), .unset, .unset]) pn8 (oentry rfl) rfl ?_
  refine Ends.st (b := (1, _, _, _, 0, 0)) (s_aloadN d8_0 rfl rfl) ?_
  refine Ends.st (b := (4, _, _, _, 0, 0)) (s_getfield (cid := 0) (i := 3) (hw _ (List.mem_of_getElem? (i := 18) rfl)) rfl d8_1 rfl rfl) ?_
  refine Ends.st (b := (5, _, _, _, 0, 0)) (s_arraylength d8_4 rfl) ?_
  refine Ends.st (b := (6, _, _, _, 0, 0)) (s_iconst (z := 1) d8_5 rfl) ?_
  refine Ends.st (b := (7, _, _, _, 0, 0)) (s_isub d8_6) ?_
  rw [h2, show (Int32.ofNat 32 - 1 : Int32) = 31 from rfl]
  refine Ends.st (b := (8, [_, _, _, _], _, _, 0, 0)) (s_istoreN d8_7 rfl) ?_
  refine Ends.st (b := (9, _, _, _, 0, 0)) (s_aloadN d8_8 rfl rfl) ?_
  refine Ends.st (b := (12, _, [_], _, 0, 0)) (s_callS (W := 0) (hw _ (List.mem_of_getElem? (i := 56) rfl)) (hw _ (List.mem_of_getElem? (i := 57) rfl)) (hw _ (List.mem_of_getElem? (i := 3) rfl)) (hw _ (List.mem_of_getElem? (i := 58) rfl)) (by decide) (lenOf pd9 rfl) d8_9 (mhash hw i v hi) rfl rfl (by decide) (by decide) (by decide) (by decide)) ?_
  refine Ends.st (b := (13, _, _, _, 0, 0)) (s_iloadN d8_12 rfl) ?_
  refine Ends.st (b := (14, _, _, _, 0, 0)) (s_iand d8_13) ?_
  rw [h31_ok]
  refine Ends.st (b := (15, [_, _, _, _], _, _, 0, 0)) (s_istoreN d8_14 rfl) ?_
  exact hE
theorem madd0 {l : Launch} {Z : State} {a0 : Array Value} (hw : ∀ d ∈ tables_1, d.before a0 Z = true) {ρ : oM} {vs ss : List Value} {t0 t1 t2 t3 : oC} {n : Nat} {s d ce : Int32} {sn : Nat → Nat} {xs : Nat → Int32} {ps : List Nat} (T : Tab vs ss n sn xs ps) (hn : n ≤ 7) (i : Nat) (v : Int32) (hi : (t0 :: t1 :: t2 :: t3 :: .inl (0, [.int 1, .ref 5, .int (Int32.ofNat n), .ref 6, .ref 7, .int s, .int d, .int ce]) :: .inr (.int, vs) :: .inr (.int, ss) :: .inr (.object "com/example/ontology_to_datalog/ontologytodatalog/datalog/Relation$ColumnIndex", [.null]) :: [])[i]? = some (.inr (.int, [.int v]))) (p : Nat) (hpe : p = prb sn xs v 32 (h31 v)) (h0 : ¬ sn p = 0) : Met l Z CK ρ (⟨"com/example/ontology_to_datalog/ontologytodatalog/datalog/Relation", "add", "([I)Z"⟩ : MethodName) prog_20_method_15_code 4 (some .boolean) ({ frames := 3, cells := 0, slots := 0, locals := 45 } : Room) [] [.ref 4, .ref i] (t0 :: t1 :: t2 :: t3 :: .inl (0, [.int 1, .ref 5, .int (Int32.ofNat n), .ref 6, .ref 7, .int s, .int d, .int ce]) :: .inr (.int, vs) :: .inr (.int, ss) :: .inr (.object "com/example/ontology_to_datalog/ontologytodatalog/datalog/Relation$ColumnIndex", [.null]) :: []) (some (.int 0)) (t0 :: t1 :: t2 :: t3 :: .inl (0, [.int 1, .ref 5, .int (Int32.ofNat n), .ref 6, .ref 7, .int s, .int d, .int ce]) :: .inr (.int, vs) :: .inr (.int, ss) :: .inr (.object "com/example/ontology_to_datalog/ontologytodatalog/datalog/Relation$ColumnIndex", [.null]) :: []) := by
  have hM := mslot (l := l) (ρ := ρ) hw (s := s) (d := d) (ce := ce) T hn i v hi
  rw [← hpe] at hM
  have hp : p < 32 := hpe ▸ prb_lt (h31_lt v)
  obtain ⟨h1, h2, h3, h4, h5, h6⟩ := T
  have hle := (h4 p hp).2
  refine Met.of (L0 := [.val (.ref 4), .val (.ref i), .unset, .unset]) pn7 (oentry rfl) rfl ?_
  refine Ends.st (b := (1, _, _, _, 0, 0)) (s_aloadN d7_0 rfl rfl) ?_
  refine Ends.st (b := (2, _, _, _, 0, 0)) (s_aloadN d7_1 rfl rfl) ?_
  refine Ends.st (b := (5, _, [_], _, 0, 0)) (s_callP (W := 0) (cid := 0) (hw _ (List.mem_of_getElem? (i := 52) rfl)) (hw _ (List.mem_of_getElem? (i := 53) rfl)) (hw _ (List.mem_of_getElem? (i := 3) rfl)) (hw _ (List.mem_of_getElem? (i := 55) rfl)) (hw _ (List.mem_of_getElem? (i := 54) rfl)) (hw _ (List.mem_of_getElem? (i := 2) rfl)) (by decide) (lenOf pd8 rfl) d7_2 rfl (hM) rfl rfl (by decide) (by decide) (by decide) (by decide)) ?_
  refine Ends.st (b := (6, [_, _, _, _], _, _, 0, 0)) (s_istoreN d7_5 rfl) ?_
  refine Ends.st (b := (7, _, _, _, 0, 0)) (s_aloadN d7_6 rfl rfl) ?_
  refine Ends.st (b := (10, _, _, _, 0, 0)) (s_getfield (cid := 0) (i := 3) (hw _ (List.mem_of_getElem? (i := 18) rfl)) rfl d7_7 rfl rfl) ?_
  refine Ends.st (b := (11, _, _, _, 0, 0)) (s_iloadN d7_10 rfl) ?_
  refine Ends.st (b := (12, _, _, _, 0, 0)) (s_iaload d7_11 rfl (nneg_of (by omega)) (by rw [tnc_of (by omega)]; exact (h4 p hp).1)) ?_
  refine Ends.st (b := (15, _, _, _, 0, 0)) (s_if_eq_f d7_12 (fun z => h0 ((eq_of (j := 0) (by omega) (by omega)).mp z))) ?_
  refine Ends.st (b := (16, _, _, _, 0, 0)) (s_iconst (z := 0) d7_15 rfl) ?_
  exact e_nreturn d7_16 rfl (by simp) rfl (by decide) (by decide)
theorem madd1 {l : Launch} {Z : State} {a0 : Array Value} (hw : ∀ d ∈ tables_1, d.before a0 Z = true) {ρ : oM} {vs ss : List Value} {t0 t1 t2 t3 : oC} {n : Nat} {s d ce : Int32} {sn : Nat → Nat} {xs : Nat → Int32} {ps : List Nat} (T : Tab vs ss n sn xs ps) (hn : n ≤ 7) (i : Nat) (v : Int32) (hi : (t0 :: t1 :: t2 :: t3 :: .inl (0, [.int 1, .ref 5, .int (Int32.ofNat n), .ref 6, .ref 7, .int s, .int d, .int ce]) :: .inr (.int, vs) :: .inr (.int, ss) :: .inr (.object "com/example/ontology_to_datalog/ontologytodatalog/datalog/Relation$ColumnIndex", [.null]) :: [])[i]? = some (.inr (.int, [.int v]))) (p : Nat) (hpe : p = prb sn xs v 32 (h31 v)) (h0 : sn p = 0) : Met l Z CK ρ (⟨"com/example/ontology_to_datalog/ontologytodatalog/datalog/Relation", "add", "([I)Z"⟩ : MethodName) prog_20_method_15_code 4 (some .boolean) ({ frames := 3, cells := 0, slots := 0, locals := 45 } : Room) [] [.ref 4, .ref i] (t0 :: t1 :: t2 :: t3 :: .inl (0, [.int 1, .ref 5, .int (Int32.ofNat n), .ref 6, .ref 7, .int s, .int d, .int ce]) :: .inr (.int, vs) :: .inr (.int, ss) :: .inr (.object "com/example/ontology_to_datalog/ontologytodatalog/datalog/Relation$ColumnIndex", [.null]) :: []) (some (.int 1)) (t0 :: t1 :: t2 :: t3 :: .inl (0, [.int 1, .ref 5, .int (Int32.ofNat (n + 1)), .ref 6, .ref 7, .int s, .int d, .int ce]) :: .inr (.int, (vs.set n (.int v))) :: .inr (.int, (ss.set p (.int (Int32.ofNat (n + 1))))) :: .inr (.object "com/example/ontology_to_datalog/ontologytodatalog/datalog/Relation$ColumnIndex", [.null]) :: []) := by
  have hM := mslot (l := l) (ρ := ρ) hw (s := s) (d := d) (ce := ce) T hn i v hi
  rw [← hpe] at hM
  have hp : p < 32 := hpe ▸ prb_lt (h31_lt v)
  obtain ⟨h1, h2, h3, h4, h5, h6⟩ := T
  refine Met.of (L0 := [.val (.ref 4), .val (.ref i), .unset, .unset]) pn7 (oentry rfl) rfl ?_
  refine Ends.st (b := (1, _, _, _, 0, 0)) (s_aloadN d7_0 rfl rfl) ?_
  refine Ends.st (b := (2, _, _, _, 0, 0)) (s_aloadN d7_1 rfl rfl) ?_
  refine Ends.st (b := (5, _, [_], _, 0, 0)) (s_callP (W := 0) (cid := 0) (hw _ (List.mem_of_getElem? (i := 52) rfl)) (hw _ (List.mem_of_getElem? (i := 53) rfl)) (hw _ (List.mem_of_getElem? (i := 3) rfl)) (hw _ (List.mem_of_getElem? (i := 55) rfl)) (hw _ (List.mem_of_getElem? (i := 54) rfl)) (hw _ (List.mem_of_getElem? (i := 2) rfl)) (by decide) (lenOf pd8 rfl) d7_2 rfl (hM) rfl rfl (by decide) (by decide) (by decide) (by decide)) ?_
  refine Ends.st (b := (6, [_, _, _, _], _, _, 0, 0)) (s_istoreN d7_5 rfl) ?_
  refine Ends.st (b := (7, _, _, _, 0, 0)) (s_aloadN d7_6 rfl rfl) ?_
  refine Ends.st (b := (10, _, _, _, 0, 0)) (s_getfield (cid := 0) (i := 3) (hw _ (List.mem_of_getElem? (i := 18) rfl)) rfl d7_7 rfl rfl) ?_
  refine Ends.st (b := (11, _, _, _, 0, 0)) (s_iloadN d7_10 rfl) ?_
  refine Ends.st (b := (12, _, _, _, 0, 0)) (s_iaload d7_11 rfl (nneg_of (by omega)) (by rw [tnc_of (by omega)]; exact (h4 p hp).1)) ?_
  refine Ends.st (b := (17, _, _, _, 0, 0)) (s_if_eq_t d7_12 (by rw [h0]; rfl) (by decide) (by decide)) ?_
  refine Ends.st (b := (18, _, _, _, 0, 0)) (s_aloadN d7_17 rfl rfl) ?_
  refine Ends.st (b := (21, _, _, _, 0, 0)) (s_getfield (cid := 0) (i := 2) (hw _ (List.mem_of_getElem? (i := 38) rfl)) rfl d7_18 rfl rfl) ?_
  refine Ends.st (b := (22, _, _, _, 0, 0)) (s_aloadN d7_21 rfl rfl) ?_
  refine Ends.st (b := (25, _, _, _, 0, 0)) (s_getfield (cid := 0) (i := 0) (hw _ (List.mem_of_getElem? (i := 10) rfl)) rfl d7_22 rfl rfl) ?_
  refine Ends.st (b := (26, _, _, _, 0, 0)) (s_imul d7_25) ?_
  refine Ends.st (b := (27, _, _, _, 0, 0)) (s_aloadN d7_26 rfl rfl) ?_
  refine Ends.st (b := (30, _, _, _, 0, 0)) (s_getfield (cid := 0) (i := 0) (hw _ (List.mem_of_getElem? (i := 10) rfl)) rfl d7_27 rfl rfl) ?_
  rw [Int32.mul_one]
  refine Ends.st (b := (31, _, _, _, 0, 0)) (s_iadd d7_30) ?_
  refine Ends.st (b := (32, _, _, _, 0, 0)) (s_aloadN d7_31 rfl rfl) ?_
  refine Ends.st (b := (35, _, _, _, 0, 0)) (s_getfield (cid := 0) (i := 1) (hw _ (List.mem_of_getElem? (i := 16) rfl)) rfl d7_32 rfl rfl) ?_
  refine Ends.st (b := (36, _, _, _, 0, 0)) (s_arraylength d7_35 rfl) ?_
  rw [show Int32.ofNat n + 1 = Int32.ofNat (n + 1) from of_add n 1]
  rw [h1]
  refine Ends.st (b := (57, _, _, _, 0, 0)) (s_icmp_le_t d7_36 (fun z => by rw [lt_of (by omega) (by omega)] at z; omega) (by decide) (by decide)) ?_
  refine Ends.st (b := (58, _, _, _, 0, 0)) (s_aloadN d7_57 rfl rfl) ?_
  refine Ends.st (b := (59, _, _, _, 0, 0)) (s_iconst (z := 0) d7_58 rfl) ?_
  refine Ends.st (b := (60, _, _, _, 0, 0)) (s_aloadN d7_59 rfl rfl) ?_
  refine Ends.st (b := (63, _, _, _, 0, 0)) (s_getfield (cid := 0) (i := 1) (hw _ (List.mem_of_getElem? (i := 16) rfl)) rfl d7_60 rfl rfl) ?_
  refine Ends.st (b := (64, _, _, _, 0, 0)) (s_aloadN d7_63 rfl rfl) ?_
  refine Ends.st (b := (67, _, _, _, 0, 0)) (s_getfield (cid := 0) (i := 2) (hw _ (List.mem_of_getElem? (i := 38) rfl)) rfl d7_64 rfl rfl) ?_
  refine Ends.st (b := (68, _, _, _, 0, 0)) (s_aloadN d7_67 rfl rfl) ?_
  refine Ends.st (b := (71, _, _, _, 0, 0)) (s_getfield (cid := 0) (i := 0) (hw _ (List.mem_of_getElem? (i := 10) rfl)) rfl d7_68 rfl rfl) ?_
  refine Ends.st (b := (72, _, _, _, 0, 0)) (s_imul d7_71) ?_
  refine Ends.st (b := (73, _, _, _, 0, 0)) (s_aloadN d7_72 rfl rfl) ?_
  refine Ends.st (b := (76, _, _, _, 0, 0)) (s_getfield (cid := 0) (i := 0) (hw _ (List.mem_of_getElem? (i := 10) rfl)) rfl d7_73 rfl rfl) ?_
  rw [Int32.mul_one]
  refine Ends.st (b := (79, _, _, _ :: _ :: _ :: _ :: _ :: .inr (_, vs.set n _) :: _ :: _ :: [], 0, 0)) (s_arraycopy1 (W := 0) (hw _ (List.mem_of_getElem? (i := 63) rfl)) (hw _ (List.mem_of_getElem? (i := 66) rfl)) (hw _ (List.mem_of_getElem? (i := 64) rfl)) (hw _ (List.mem_of_getElem? (i := 65) rfl)) d7_76 hi rfl (by decide) (nneg_of (by omega)) rfl (by rw [tnc_of (by omega)]; omega) (by decide) rfl (by decide) (by rw [tnc_of (by omega)]; rfl)) ?_
  refine Ends.st (b := (80, _, _, _, 0, 0)) (s_aloadN d7_79 rfl rfl) ?_
  refine Ends.st (b := (83, _, _, _, 0, 0)) (s_getfield (cid := 0) (i := 3) (hw _ (List.mem_of_getElem? (i := 18) rfl)) rfl d7_80 rfl rfl) ?_
  refine Ends.st (b := (84, _, _, _, 0, 0)) (s_iloadN d7_83 rfl) ?_
  refine Ends.st (b := (85, _, _, _, 0, 0)) (s_aloadN d7_84 rfl rfl) ?_
  refine Ends.st (b := (88, _, _, _, 0, 0)) (s_getfield (cid := 0) (i := 2) (hw _ (List.mem_of_getElem? (i := 38) rfl)) rfl d7_85 rfl rfl) ?_
  refine Ends.st (b := (89, _, _, _, 0, 0)) (s_iconst (z := 1) d7_88 rfl) ?_
  refine Ends.st (b := (90, _, _, _, 0, 0)) (s_iadd d7_89) ?_
  rw [show Int32.ofNat n + 1 = Int32.ofNat (n + 1) from of_add n 1]
  refine Ends.st (b := (91, _, _, _ :: _ :: _ :: _ :: _ :: _ :: .inr (_, ss.set p _) :: _ :: [], 0, 0)) (s_iastore d7_90 rfl (nneg_of (by omega)) (by rw [tnc_of (by omega)]; omega) (by rw [tnc_of (by omega)]; rfl)) ?_
  refine Ends.st (b := (92, _, _, _, 0, 0)) (s_iconst (z := 0) d7_91 rfl) ?_
  refine Ends.st (b := (93, [_, _, _, _], _, _, 0, 0)) (s_istoreN d7_92 rfl) ?_
  refine Ends.st (b := (94, _, _, _, 0, 0)) (s_iloadN d7_93 rfl) ?_
  refine Ends.st (b := (95, _, _, _, 0, 0)) (s_aloadN d7_94 rfl rfl) ?_
  refine Ends.st (b := (98, _, _, _, 0, 0)) (s_getfield (cid := 0) (i := 0) (hw _ (List.mem_of_getElem? (i := 10) rfl)) rfl d7_95 rfl rfl) ?_
  refine Ends.st (b := (101, _, _, _, 0, 0)) (s_icmp_ge_f d7_98 (by decide)) ?_
  refine Ends.st (b := (102, _, _, _, 0, 0)) (s_aloadN d7_101 rfl rfl) ?_
  refine Ends.st (b := (105, _, _, _, 0, 0)) (s_getfield (cid := 0) (i := 4) (hw _ (List.mem_of_getElem? (i := 22) rfl)) rfl d7_102 rfl rfl) ?_
  refine Ends.st (b := (106, _, _, _, 0, 0)) (s_iloadN d7_105 rfl) ?_
  refine Ends.st (b := (107, _, _, _, 0, 0)) (s_aaload d7_106 rfl rfl (by decide) rfl) ?_
  refine Ends.st (b := (126, _, _, _, 0, 0)) (s_ifnull_t d7_107 (by decide) (by decide)) ?_
  refine Ends.st (b := (129, [_, _, _, _], _, _, 0, 0)) (s_iinc (z' := 1) d7_126 rfl rfl rfl) ?_
  refine Ends.st (b := (93, _, _, _, 0, 0)) (s_goto d7_129 (by decide) (by decide)) ?_
  refine Ends.st (b := (94, _, _, _, 0, 0)) (s_iloadN d7_93 rfl) ?_
  refine Ends.st (b := (95, _, _, _, 0, 0)) (s_aloadN d7_94 rfl rfl) ?_
  refine Ends.st (b := (98, _, _, _, 0, 0)) (s_getfield (cid := 0) (i := 0) (hw _ (List.mem_of_getElem? (i := 10) rfl)) rfl d7_95 rfl rfl) ?_
  refine Ends.st (b := (132, _, _, _, 0, 0)) (s_icmp_ge_t d7_98 (by decide) (by decide) (by decide)) ?_
  refine Ends.st (b := (133, _, _, _, 0, 0)) (s_aloadN d7_132 rfl rfl) ?_
  refine Ends.st (b := (134, _, _, _, 0, 0)) (s_dup d7_133 rfl) ?_
  refine Ends.st (b := (137, _, _, _, 0, 0)) (s_getfield (cid := 0) (i := 2) (hw _ (List.mem_of_getElem? (i := 38) rfl)) rfl d7_134 rfl rfl) ?_
  refine Ends.st (b := (138, _, _, _, 0, 0)) (s_iconst (z := 1) d7_137 rfl) ?_
  refine Ends.st (b := (139, _, _, _, 0, 0)) (s_iadd d7_138) ?_
  rw [show Int32.ofNat n + 1 = Int32.ofNat (n + 1) from of_add n 1]
  refine Ends.st (b := (142, _, _, [_, _, _, _, .inl (_, [_, _, _, _, _, _, _, _]), _, _, .inr (_, [_])], 0, 0)) (s_putfield (cid := 0) (i := 2) (hw _ (List.mem_of_getElem? (i := 38) rfl)) (kok0 hw) rfl (Or.inl (hw _ (List.mem_of_getElem? (i := 39) rfl))) (hw _ (List.mem_of_getElem? (i := 2) rfl)) (ty := .int) (by decide) rfl rfl d7_139 rfl rfl rfl) ?_
  refine Ends.st (b := (143, _, _, _, 0, 0)) (s_aloadN d7_142 rfl rfl) ?_
  refine Ends.st (b := (146, _, _, _, 0, 0)) (s_getfield (cid := 0) (i := 2) (hw _ (List.mem_of_getElem? (i := 38) rfl)) rfl d7_143 rfl rfl) ?_
  refine Ends.st (b := (147, _, _, _, 0, 0)) (s_iconst (z := 2) d7_146 rfl) ?_
  refine Ends.st (b := (148, _, _, _, 0, 0)) (s_imul d7_147) ?_
  refine Ends.st (b := (149, _, _, _, 0, 0)) (s_aloadN d7_148 rfl rfl) ?_
  refine Ends.st (b := (152, _, _, _, 0, 0)) (s_getfield (cid := 0) (i := 3) (hw _ (List.mem_of_getElem? (i := 18) rfl)) rfl d7_149 rfl rfl) ?_
  refine Ends.st (b := (153, _, _, _, 0, 0)) (s_arraylength d7_152 rfl) ?_
  rw [List.length_set, h2, show Int32.ofNat (n + 1) * 2 = Int32.ofNat ((n + 1) * 2) from (Int32.ofNat_mul (n + 1) 2).symm]
  refine Ends.st (b := (173, _, _, _, 0, 0)) (s_icmp_le_t d7_153 (fun z => by rw [lt_of (by omega) (by omega)] at z; omega) (by decide) (by decide)) ?_
  refine Ends.st (b := (174, _, _, _, 0, 0)) (s_iconst (z := 1) d7_173 rfl) ?_
  exact e_nreturn d7_174 rfl (by simp) rfl (by decide) (by decide)
theorem mctor {l : Launch} {Z : State} {a0 : Array Value} (hw : ∀ d ∈ tables_1, d.before a0 Z = true) {ρ : oM} {t0 t1 t2 t3 : oC} : Met l Z CK ρ (⟨"com/example/ontology_to_datalog/ontologytodatalog/datalog/Relation", "<init>", "(I)V"⟩ : MethodName) prog_20_method_1_code 2 none ({ frames := 1, cells := 3, slots := 49, locals := 16 } : Room) [] [.ref 4, .int 1] (t0 :: t1 :: t2 :: t3 :: .inl (0, [.int 0, .null, .int 0, .null, .null, .int 0, .int 0, .int 0]) :: []) none (t0 :: t1 :: t2 :: t3 :: .inl (0, [.int 1, .ref 5, .int 0, .ref 6, .ref 7, .int 0, .int 0, .int 0]) :: .inr (.int, List.replicate 16 (.int 0)) :: .inr (.int, List.replicate 32 (.int 0)) :: .inr (.object "com/example/ontology_to_datalog/ontologytodatalog/datalog/Relation$ColumnIndex", [.null]) :: []) := by
  refine Met.of (L0 := [.val (.ref 4), .val (.int 1)]) pn1 (oentry rfl) rfl ?_
  refine Ends.st (b := (1, _, _, _, 0, 0)) (s_aloadN d1_0 rfl rfl) ?_
  refine Ends.st (b := (4, _, _, _, 0, 0)) (s_initO (W := 0) (hw _ (List.mem_of_getElem? (i := 7) rfl)) (hw _ (List.mem_of_getElem? (i := 8) rfl)) (hw _ (List.mem_of_getElem? (i := 9) rfl)) d1_1 (by decide) rfl (by decide)) ?_
  refine Ends.st (b := (5, _, _, _, 0, 0)) (s_aloadN d1_4 rfl rfl) ?_
  refine Ends.st (b := (6, _, _, _, 0, 0)) (s_iloadN d1_5 rfl) ?_
  refine Ends.st (b := (9, _, _, [_, _, _, _, .inl (_, [_, _, _, _, _, _, _, _])], 0, 0)) (s_putfield (cid := 0) (i := 0) (hw _ (List.mem_of_getElem? (i := 10) rfl)) (kok0 hw) rfl (Or.inr ⟨(hw _ (List.mem_of_getElem? (i := 11) rfl)), rfl, rfl⟩) (hw _ (List.mem_of_getElem? (i := 2) rfl)) (ty := .int) (by decide) rfl rfl d1_6 rfl rfl rfl) ?_
  refine Ends.st (b := (10, _, _, _, 0, 0)) (s_aloadN d1_9 rfl rfl) ?_
  refine Ends.st (b := (12, _, _, _, 0, 0)) (s_bipush (z := 16) d1_10 (by decide)) ?_
  refine Ends.st (b := (13, _, _, _, 0, 0)) (s_iloadN d1_12 rfl) ?_
  refine Ends.st (b := (14, _, _, _, 0, 0)) (s_iconst (z := 1) d1_13 rfl) ?_
  refine Ends.st (b := (17, _, [_, _, _], _, 0, 0)) (s_callS (W := 2) (hw _ (List.mem_of_getElem? (i := 12) rfl)) (hw _ (List.mem_of_getElem? (i := 13) rfl)) (hw _ (List.mem_of_getElem? (i := 14) rfl)) (hw _ (List.mem_of_getElem? (i := 15) rfl)) (by decide) (lenOf pd3 rfl) d1_14 (mmax hw _ _) rfl rfl (by decide) (by decide) (by decide) (by decide)) ?_
  refine Ends.st (b := (18, _, _, _, 0, 0)) (s_imul d1_17) ?_
  rw [show (16 : Int32) * jmax 1 1 = 16 from by decide]
  refine Ends.st (b := (20, _, _, [_, _, _, _, .inl (_, [_, _, _, _, _, _, _, _]), .inr (_, [_, _, _, _, _, _, _, _, _, _, _, _, _, _, _, _])], 1, 16)) (s_newarray (j := 5) (q := 16) (cap := 16) (hw _ (List.mem_of_getElem? (i := 0) rfl)) d1_18 rfl (by decide) (by decide) (by decide) (by decide) (by decide) (by decide) rfl) ?_
  refine Ends.st (b := (23, _, _, [_, _, _, _, .inl (_, [_, _, _, _, _, _, _, _]), .inr (_, [_, _, _, _, _, _, _, _, _, _, _, _, _, _, _, _])], 1, 16)) (s_putfield (cid := 0) (i := 1) (hw _ (List.mem_of_getElem? (i := 16) rfl)) (kok0 hw) rfl (Or.inl (hw _ (List.mem_of_getElem? (i := 17) rfl))) (hw _ (List.mem_of_getElem? (i := 2) rfl)) (ty := (.array .int)) (by decide) rfl rfl d1_20 rfl rfl rfl) ?_
  refine Ends.st (b := (24, _, _, _, 1, 16)) (s_aloadN d1_23 rfl rfl) ?_
  refine Ends.st (b := (26, _, _, _, 1, 16)) (s_bipush (z := 32) d1_24 (by decide)) ?_
  refine Ends.st (b := (28, _, _, [_, _, _, _, .inl (_, [_, _, _, _, _, _, _, _]), .inr (_, [_, _, _, _, _, _, _, _, _, _, _, _, _, _, _, _]), .inr (_, [_, _, _, _, _, _, _, _, _, _, _, _, _, _, _, _, _, _, _, _, _, _, _, _, _, _, _, _, _, _, _, _])], 2, 48)) (s_newarray (j := 6) (q := 32) (cap := 32) (hw _ (List.mem_of_getElem? (i := 0) rfl)) d1_26 rfl (by decide) (by decide) (by decide) (by decide) (by decide) (by decide) rfl) ?_
  refine Ends.st (b := (31, _, _, [_, _, _, _, .inl (_, [_, _, _, _, _, _, _, _]), .inr (_, [_, _, _, _, _, _, _, _, _, _, _, _, _, _, _, _]), .inr (_, [_, _, _, _, _, _, _, _, _, _, _, _, _, _, _, _, _, _, _, _, _, _, _, _, _, _, _, _, _, _, _, _])], 2, 48)) (s_putfield (cid := 0) (i := 3) (hw _ (List.mem_of_getElem? (i := 18) rfl)) (kok0 hw) rfl (Or.inl (hw _ (List.mem_of_getElem? (i := 19) rfl))) (hw _ (List.mem_of_getElem? (i := 2) rfl)) (ty := (.array .int)) (by decide) rfl rfl d1_28 rfl rfl rfl) ?_
  refine Ends.st (b := (32, _, _, _, 2, 48)) (s_aloadN d1_31 rfl rfl) ?_
  refine Ends.st (b := (33, _, _, _, 2, 48)) (s_iloadN d1_32 rfl) ?_
  refine Ends.st (b := (36, _, _, [_, _, _, _, .inl (_, [_, _, _, _, _, _, _, _]), .inr (_, [_, _, _, _, _, _, _, _, _, _, _, _, _, _, _, _]), .inr (_, [_, _, _, _, _, _, _, _, _, _, _, _, _, _, _, _, _, _, _, _, _, _, _, _, _, _, _, _, _, _, _, _]), .inr (_, [_])], 3, 49)) (s_anewarray (C := "com/example/ontology_to_datalog/ontologytodatalog/datalog/Relation$ColumnIndex") (j := 7) (q := 1) (hw _ (List.mem_of_getElem? (i := 20) rfl)) (hw _ (List.mem_of_getElem? (i := 21) rfl)) d1_33 rfl (by decide) (by decide) (by decide) (by decide) (by decide) rfl) ?_
  refine Ends.st (b := (39, _, _, [_, _, _, _, .inl (_, [_, _, _, _, _, _, _, _]), .inr (_, [_, _, _, _, _, _, _, _, _, _, _, _, _, _, _, _]), .inr (_, [_, _, _, _, _, _, _, _, _, _, _, _, _, _, _, _, _, _, _, _, _, _, _, _, _, _, _, _, _, _, _, _]), .inr (_, [_])], 3, 49)) (s_putfield (cid := 0) (i := 4) (hw _ (List.mem_of_getElem? (i := 22) rfl)) (kok0 hw) rfl (Or.inr ⟨(hw _ (List.mem_of_getElem? (i := 23) rfl)), rfl, rfl⟩) (hw _ (List.mem_of_getElem? (i := 2) rfl)) (ty := (.array (.object "com/example/ontology_to_datalog/ontologytodatalog/datalog/Relation$ColumnIndex"))) (by decide) rfl rfl d1_36 rfl rfl rfl) ?_
  exact e_return d1_39 rfl (by decide) (by decide)
theorem m_markCertain {l : Launch} {Z : State} {a0 : Array Value} (hw : ∀ d ∈ tables_1, d.before a0 Z = true) {ρ : oM} {t0 t1 t2 t3 : oC} {v0 v1 v3 v4 : Value} {A : oH} (n s d ce : Int32) : Met l Z CK ρ (⟨"com/example/ontology_to_datalog/ontologytodatalog/datalog/Relation", "markCertain", "()V"⟩ : MethodName) prog_20_method_11_code 1 none ({ frames := 0, cells := 0, slots := 0, locals := 0 } : Room) [] [.ref 4] (t0 :: t1 :: t2 :: t3 :: .inl (0, [v0, v1, .int n, v3, v4, .int s, .int d, .int ce]) :: A) none (t0 :: t1 :: t2 :: t3 :: .inl (0, [v0, v1, .int n, v3, v4, .int s, .int d, .int n]) :: A) := by
  refine Met.of (L0 := [.val (.ref 4)]) pn5 (oentry rfl) rfl ?_
  refine Ends.st (b := (1, _, _, _, 0, 0)) (s_aloadN d5_0 rfl rfl) ?_
  refine Ends.st (b := (2, _, _, _, 0, 0)) (s_aloadN d5_1 rfl rfl) ?_
  refine Ends.st (b := (5, _, _, _, 0, 0)) (s_getfield (cid := 0) (i := 2) (hw _ (List.mem_of_getElem? (i := 38) rfl)) rfl d5_2 rfl rfl) ?_
  refine Ends.st (b := (8, _, _, _ :: _ :: _ :: _ :: .inl (_, [_, _, _, _, _, _, _, _]) :: A, 0, 0)) (s_putfield (cid := 0) (i := 7) (hw _ (List.mem_of_getElem? (i := 40) rfl)) (kok0 hw) rfl (Or.inl (hw _ (List.mem_of_getElem? (i := 41) rfl))) (hw _ (List.mem_of_getElem? (i := 2) rfl)) (ty := .int) (by decide) rfl rfl d5_5 rfl rfl rfl) ?_
  exact e_return d5_8 rfl (by decide) (by decide)
theorem m_advance {l : Launch} {Z : State} {a0 : Array Value} (hw : ∀ d ∈ tables_1, d.before a0 Z = true) {ρ : oM} {t0 t1 t2 t3 : oC} {v0 v1 v3 v4 : Value} {A : oH} (n s d ce : Int32) : Met l Z CK ρ (⟨"com/example/ontology_to_datalog/ontologytodatalog/datalog/Relation", "advance", "()V"⟩ : MethodName) prog_20_method_8_code 1 none ({ frames := 0, cells := 0, slots := 0, locals := 0 } : Room) [] [.ref 4] (t0 :: t1 :: t2 :: t3 :: .inl (0, [v0, v1, .int n, v3, v4, .int s, .int d, .int ce]) :: A) none (t0 :: t1 :: t2 :: t3 :: .inl (0, [v0, v1, .int n, v3, v4, .int d, .int n, .int ce]) :: A) := by
  refine Met.of (L0 := [.val (.ref 4)]) pn12 (oentry rfl) rfl ?_
  refine Ends.st (b := (1, _, _, _, 0, 0)) (s_aloadN d12_0 rfl rfl) ?_
  refine Ends.st (b := (2, _, _, _, 0, 0)) (s_aloadN d12_1 rfl rfl) ?_
  refine Ends.st (b := (5, _, _, _, 0, 0)) (s_getfield (cid := 0) (i := 6) (hw _ (List.mem_of_getElem? (i := 29) rfl)) rfl d12_2 rfl rfl) ?_
  refine Ends.st (b := (8, _, _, _ :: _ :: _ :: _ :: .inl (_, [_, _, _, _, _, _, _, _]) :: A, 0, 0)) (s_putfield (cid := 0) (i := 5) (hw _ (List.mem_of_getElem? (i := 31) rfl)) (kok0 hw) rfl (Or.inl (hw _ (List.mem_of_getElem? (i := 32) rfl))) (hw _ (List.mem_of_getElem? (i := 2) rfl)) (ty := .int) (by decide) rfl rfl d12_5 rfl rfl rfl) ?_
  refine Ends.st (b := (9, _, _, _, 0, 0)) (s_aloadN d12_8 rfl rfl) ?_
  refine Ends.st (b := (10, _, _, _, 0, 0)) (s_aloadN d12_9 rfl rfl) ?_
  refine Ends.st (b := (13, _, _, _, 0, 0)) (s_getfield (cid := 0) (i := 2) (hw _ (List.mem_of_getElem? (i := 38) rfl)) rfl d12_10 rfl rfl) ?_
  refine Ends.st (b := (16, _, _, _ :: _ :: _ :: _ :: .inl (_, [_, _, _, _, _, _, _, _]) :: A, 0, 0)) (s_putfield (cid := 0) (i := 6) (hw _ (List.mem_of_getElem? (i := 29) rfl)) (kok0 hw) rfl (Or.inl (hw _ (List.mem_of_getElem? (i := 30) rfl))) (hw _ (List.mem_of_getElem? (i := 2) rfl)) (ty := .int) (by decide) rfl rfl d12_13 rfl rfl rfl) ?_
  exact e_return d12_16 rfl (by decide) (by decide)
theorem m_makeUncertainDelta {l : Launch} {Z : State} {a0 : Array Value} (hw : ∀ d ∈ tables_1, d.before a0 Z = true) {ρ : oM} {t0 t1 t2 t3 : oC} {v0 v1 v3 v4 : Value} {A : oH} (n s d ce : Int32) : Met l Z CK ρ (⟨"com/example/ontology_to_datalog/ontologytodatalog/datalog/Relation", "makeUncertainDelta", "()V"⟩ : MethodName) prog_20_method_12_code 1 none ({ frames := 0, cells := 0, slots := 0, locals := 0 } : Room) [] [.ref 4] (t0 :: t1 :: t2 :: t3 :: .inl (0, [v0, v1, .int n, v3, v4, .int s, .int d, .int ce]) :: A) none (t0 :: t1 :: t2 :: t3 :: .inl (0, [v0, v1, .int n, v3, v4, .int ce, .int n, .int ce]) :: A) := by
  refine Met.of (L0 := [.val (.ref 4)]) pn6 (oentry rfl) rfl ?_
  refine Ends.st (b := (1, _, _, _, 0, 0)) (s_aloadN d6_0 rfl rfl) ?_
  refine Ends.st (b := (2, _, _, _, 0, 0)) (s_aloadN d6_1 rfl rfl) ?_
  refine Ends.st (b := (5, _, _, _, 0, 0)) (s_getfield (cid := 0) (i := 7) (hw _ (List.mem_of_getElem? (i := 40) rfl)) rfl d6_2 rfl rfl) ?_
  refine Ends.st (b := (8, _, _, _ :: _ :: _ :: _ :: .inl (_, [_, _, _, _, _, _, _, _]) :: A, 0, 0)) (s_putfield (cid := 0) (i := 5) (hw _ (List.mem_of_getElem? (i := 31) rfl)) (kok0 hw) rfl (Or.inl (hw _ (List.mem_of_getElem? (i := 32) rfl))) (hw _ (List.mem_of_getElem? (i := 2) rfl)) (ty := .int) (by decide) rfl rfl d6_5 rfl rfl rfl) ?_
  refine Ends.st (b := (9, _, _, _, 0, 0)) (s_aloadN d6_8 rfl rfl) ?_
  refine Ends.st (b := (10, _, _, _, 0, 0)) (s_aloadN d6_9 rfl rfl) ?_
  refine Ends.st (b := (13, _, _, _, 0, 0)) (s_getfield (cid := 0) (i := 2) (hw _ (List.mem_of_getElem? (i := 38) rfl)) rfl d6_10 rfl rfl) ?_
  refine Ends.st (b := (16, _, _, _ :: _ :: _ :: _ :: .inl (_, [_, _, _, _, _, _, _, _]) :: A, 0, 0)) (s_putfield (cid := 0) (i := 6) (hw _ (List.mem_of_getElem? (i := 29) rfl)) (kok0 hw) rfl (Or.inl (hw _ (List.mem_of_getElem? (i := 30) rfl))) (hw _ (List.mem_of_getElem? (i := 2) rfl)) (ty := .int) (by decide) rfl rfl d6_13 rfl rfl rfl) ?_
  exact e_return d6_16 rfl (by decide) (by decide)
def hasD (s d : Int32) : Int32 := if ¬ s < d then 0 else 1
theorem m_hasDelta {l : Launch} {Z : State} {a0 : Array Value} (hw : ∀ d ∈ tables_1, d.before a0 Z = true) {ρ : oM} {t0 t1 t2 t3 : oC} {v0 v1 v3 v4 : Value} {A : oH} (n s d ce : Int32) : Met l Z CK ρ (⟨"com/example/ontology_to_datalog/ontologytodatalog/datalog/Relation", "hasDelta", "()Z"⟩ : MethodName) prog_20_method_9_code 1 (some .boolean) ({ frames := 0, cells := 0, slots := 0, locals := 0 } : Room) [] [.ref 4] (t0 :: t1 :: t2 :: t3 :: .inl (0, [v0, v1, .int n, v3, v4, .int s, .int d, .int ce]) :: A) (some (.int (hasD s d))) (t0 :: t1 :: t2 :: t3 :: .inl (0, [v0, v1, .int n, v3, v4, .int s, .int d, .int ce]) :: A) := by
  refine Met.of (L0 := [.val (.ref 4)]) pn4 (oentry rfl) rfl ?_
  refine Ends.st (b := (1, _, _, _, 0, 0)) (s_aloadN d4_0 rfl rfl) ?_
  refine Ends.st (b := (4, _, _, _, 0, 0)) (s_getfield (cid := 0) (i := 6) (hw _ (List.mem_of_getElem? (i := 29) rfl)) rfl d4_1 rfl rfl) ?_
  refine Ends.st (b := (5, _, _, _, 0, 0)) (s_aloadN d4_4 rfl rfl) ?_
  refine Ends.st (b := (8, _, _, _, 0, 0)) (s_getfield (cid := 0) (i := 5) (hw _ (List.mem_of_getElem? (i := 31) rfl)) rfl d4_5 rfl rfl) ?_
  refine Ends.icmp_le (pc' := 15) d4_8 (by decide) (by decide) (fun h => ?_) (fun h => ?_)
  · skip
    rw [show hasD s d = 0 from if_pos h]
    refine Ends.st (b := (16, _, _, _, 0, 0)) (s_iconst (z := 0) d4_15 rfl) ?_
    exact e_nreturn d4_16 rfl (by simp) rfl (by decide) (by decide)
  · skip
    rw [show hasD s d = 1 from if_neg (fun z => z h)]
    refine Ends.st (b := (12, _, _, _, 0, 0)) (s_iconst (z := 1) d4_11 rfl) ?_
    refine Ends.st (b := (16, _, _, _, 0, 0)) (s_goto d4_12 (by decide) (by decide)) ?_
    exact e_nreturn d4_16 rfl (by simp) rfl (by decide) (by decide)
theorem Tab.empty (xs : Nat → Int32) : Tab (List.replicate 16 (.int 0)) (List.replicate 32 (.int 0)) 0 (fun _ => 0) xs [] :=
  ⟨by simp, by simp, fun q h => absurd h (by omega), fun p h => ⟨by rw [List.getElem?_replicate, if_pos h]; rfl, Nat.le_refl _⟩, Nat.le_refl _, fun p _ h => absurd rfl h⟩
def Good (vs ss : List Value) (n : Nat) (x : Int32) (S : List Int32) (b : Bool) : Prop := ∃ (sn : Nat → Nat) (xs : Nat → Int32) (ps : List Nat), Tab vs ss n sn xs ps ∧ (∀ q, q < n → xs q ∈ S) ∧ (b = true → sn (h31 x) = 1 ∧ xs 0 = x)
theorem Good.empty (x : Int32) : Good (List.replicate 16 (.int 0)) (List.replicate 32 (.int 0)) 0 x [] false := ⟨_, fun _ => 0, _, Tab.empty _, fun q h => absurd h (by omega), fun h => Bool.noConfusion h⟩
theorem prb_free {sn : Nat → Nat} {xs : Nat → Int32} {v : Int32} {s : Nat} (h : sn s = 0) : prb sn xs v 32 s = s := if_pos h
theorem prb_same {sn : Nat → Nat} {xs : Nat → Int32} {v : Int32} {s : Nat} (h0 : ¬ sn s = 0) (h : xs (sn s - 1) = v) : prb sn xs v 32 s = s := (if_neg h0).trans (if_pos h)
theorem gNew {l : Launch} {Z : State} {a0 : Array Value} (hw : ∀ d ∈ tables_1, d.before a0 Z = true) {ρ : oM} {vs ss : List Value} {t0 t1 t2 t3 : oC} {s d ce : Int32} {n : Nat} {x : Int32} {S : List Int32} {b : Bool} (G : Good vs ss n x S b) (hn : n ≤ 7) (i : Nat) (v : Int32) (hi : (t0 :: t1 :: t2 :: t3 :: .inl (0, [.int 1, .ref 5, .int (Int32.ofNat n), .ref 6, .ref 7, .int s, .int d, .int ce]) :: .inr (.int, vs) :: .inr (.int, ss) :: .inr (.object "com/example/ontology_to_datalog/ontologytodatalog/datalog/Relation$ColumnIndex", [.null]) :: [])[i]? = some (.inr (.int, [.int v]))) (hv : v ∉ S) (hb : b = true → 0 < n) : ∃ vs' ss', Good vs' ss' (n + 1) x (v :: S) b ∧ Met l Z CK ρ (⟨"com/example/ontology_to_datalog/ontologytodatalog/datalog/Relation", "add", "([I)Z"⟩ : MethodName) prog_20_method_15_code 4 (some .boolean) ({ frames := 3, cells := 0, slots := 0, locals := 45 } : Room) [] [.ref 4, .ref i] (t0 :: t1 :: t2 :: t3 :: .inl (0, [.int 1, .ref 5, .int (Int32.ofNat n), .ref 6, .ref 7, .int s, .int d, .int ce]) :: .inr (.int, vs) :: .inr (.int, ss) :: .inr (.object "com/example/ontology_to_datalog/ontologytodatalog/datalog/Relation$ColumnIndex", [.null]) :: []) (some (.int 1)) (t0 :: t1 :: t2 :: t3 :: .inl (0, [.int 1, .ref 5, .int (Int32.ofNat (n + 1)), .ref 6, .ref 7, .int s, .int d, .int ce]) :: .inr (.int, vs') :: .inr (.int, ss') :: .inr (.object "com/example/ontology_to_datalog/ontologytodatalog/datalog/Relation$ColumnIndex", [.null]) :: []) := by
  obtain ⟨sn, xs, ps, T, hS, hF⟩ := G
  obtain ⟨p, hpe⟩ : ∃ p, p = prb sn xs v 32 (h31 v) := ⟨_, rfl⟩
  have hp : p < 32 := hpe ▸ prb_lt (h31_lt v)
  have hit := T.hit hn v (h31_lt v)
  rw [← hpe] at hit
  have h0 : sn p = 0 := Classical.byContradiction fun z => by
    have hle := (T.2.2.2.1 p hp).2
    have := hS (sn p - 1) (by omega)
    rw [hit.resolve_left z] at this; exact hv this
  refine ⟨_, _, ⟨_, _, _, T.add (by omega) v hp, fun q hq => ?_, fun hb' => ?_⟩, madd1 hw T hn i v hi p hpe h0⟩
  · by_cases e : q = n
    · show (if q = n then v else xs q) ∈ _; rw [if_pos e]; exact List.mem_cons_self ..
    · show (if q = n then v else xs q) ∈ _; rw [if_neg e]; exact List.mem_cons_of_mem _ (hS q (by omega))
  · obtain ⟨f1, f2⟩ := hF hb'
    have hne : h31 x ≠ p := fun e => by rw [e, h0] at f1; cases f1
    refine ⟨?_, ?_⟩
    · show (if h31 x = p then n + 1 else sn (h31 x)) = 1; rw [if_neg hne]; exact f1
    · show (if 0 = n then v else xs 0) = x; rw [if_neg (by have := hb hb'; omega)]; exact f2
theorem gFirst {l : Launch} {Z : State} {a0 : Array Value} (hw : ∀ d ∈ tables_1, d.before a0 Z = true) {ρ : oM} {vs ss : List Value} {t0 t1 t2 t3 : oC} {s d ce : Int32} {n : Nat} {x : Int32} (hn0 : n = 0) (G : Good vs ss n x [] false) (i : Nat) (v : Int32) (hi : (t0 :: t1 :: t2 :: t3 :: .inl (0, [.int 1, .ref 5, .int (Int32.ofNat n), .ref 6, .ref 7, .int s, .int d, .int ce]) :: .inr (.int, vs) :: .inr (.int, ss) :: .inr (.object "com/example/ontology_to_datalog/ontologytodatalog/datalog/Relation$ColumnIndex", [.null]) :: [])[i]? = some (.inr (.int, [.int v]))) (hvx : v = x) (hE : ss = List.replicate 32 (.int 0)) : ∃ vs' ss', Good vs' ss' (n + 1) x [v] true ∧ Met l Z CK ρ (⟨"com/example/ontology_to_datalog/ontologytodatalog/datalog/Relation", "add", "([I)Z"⟩ : MethodName) prog_20_method_15_code 4 (some .boolean) ({ frames := 3, cells := 0, slots := 0, locals := 45 } : Room) [] [.ref 4, .ref i] (t0 :: t1 :: t2 :: t3 :: .inl (0, [.int 1, .ref 5, .int (Int32.ofNat n), .ref 6, .ref 7, .int s, .int d, .int ce]) :: .inr (.int, vs) :: .inr (.int, ss) :: .inr (.object "com/example/ontology_to_datalog/ontologytodatalog/datalog/Relation$ColumnIndex", [.null]) :: []) (some (.int 1)) (t0 :: t1 :: t2 :: t3 :: .inl (0, [.int 1, .ref 5, .int (Int32.ofNat (n + 1)), .ref 6, .ref 7, .int s, .int d, .int ce]) :: .inr (.int, vs') :: .inr (.int, ss') :: .inr (.object "com/example/ontology_to_datalog/ontologytodatalog/datalog/Relation$ColumnIndex", [.null]) :: []) := by
  obtain ⟨sn, xs, ps, T, hS, hF⟩ := G
  subst hn0
  have hz : sn (h31 v) = 0 := by have := (T.2.2.2.1 (h31 v) (h31_lt v)).2; omega
  refine ⟨_, _, ⟨_, _, _, T.add (by decide) v (h31_lt v), fun q hq => ?_, fun _ => ⟨?_, ?_⟩⟩, madd1 hw T (by decide) i v hi (h31 v) (prb_free hz).symm hz⟩
  · obtain rfl : q = 0 := by omega
    exact List.mem_cons_self ..
  · show (if h31 x = h31 v then 0 + 1 else sn (h31 x)) = 1; rw [if_pos (by rw [hvx])]
  · show (if 0 = 0 then v else xs 0) = x; rw [if_pos rfl]; exact hvx
theorem gDup {l : Launch} {Z : State} {a0 : Array Value} (hw : ∀ d ∈ tables_1, d.before a0 Z = true) {ρ : oM} {vs ss : List Value} {t0 t1 t2 t3 : oC} {s d ce : Int32} {n : Nat} {x : Int32} {S : List Int32} (G : Good vs ss n x S true) (hn : n ≤ 7) (i : Nat) (v : Int32) (hi : (t0 :: t1 :: t2 :: t3 :: .inl (0, [.int 1, .ref 5, .int (Int32.ofNat n), .ref 6, .ref 7, .int s, .int d, .int ce]) :: .inr (.int, vs) :: .inr (.int, ss) :: .inr (.object "com/example/ontology_to_datalog/ontologytodatalog/datalog/Relation$ColumnIndex", [.null]) :: [])[i]? = some (.inr (.int, [.int v]))) (hvx : v = x) : Met l Z CK ρ (⟨"com/example/ontology_to_datalog/ontologytodatalog/datalog/Relation", "add", "([I)Z"⟩ : MethodName) prog_20_method_15_code 4 (some .boolean) ({ frames := 3, cells := 0, slots := 0, locals := 45 } : Room) [] [.ref 4, .ref i] (t0 :: t1 :: t2 :: t3 :: .inl (0, [.int 1, .ref 5, .int (Int32.ofNat n), .ref 6, .ref 7, .int s, .int d, .int ce]) :: .inr (.int, vs) :: .inr (.int, ss) :: .inr (.object "com/example/ontology_to_datalog/ontologytodatalog/datalog/Relation$ColumnIndex", [.null]) :: []) (some (.int 0)) (t0 :: t1 :: t2 :: t3 :: .inl (0, [.int 1, .ref 5, .int (Int32.ofNat n), .ref 6, .ref 7, .int s, .int d, .int ce]) :: .inr (.int, vs) :: .inr (.int, ss) :: .inr (.object "com/example/ontology_to_datalog/ontologytodatalog/datalog/Relation$ColumnIndex", [.null]) :: []) := by
  obtain ⟨sn, xs, ps, T, hS, hF⟩ := G
  obtain ⟨f1, f2⟩ := hF rfl
  subst hvx
  have h0 : ¬ sn (h31 v) = 0 := by omega
  exact madd0 hw T hn i v hi (h31 v) (prb_same h0 (by rw [f1]; exact f2)).symm h0
theorem ne_add {x a b : Int32} (h : u32 a ≠ u32 b) : x + a ≠ x + b := fun e => by
  have := congrArg u32 e
  rw [u32_add, u32_add] at this
  have := u32_lt x; have := u32_lt a; have := u32_lt b
  omega
theorem ne_add0 {x a : Int32} (h : u32 a ≠ 0) : x + a ≠ x := fun e => by
  have := congrArg u32 e
  rw [u32_add] at this
  have := u32_lt x; have := u32_lt a
  omega
theorem nin1 (x : Int32) : x + 1 ∉ [x] := by simp only [List.mem_cons, List.not_mem_nil, or_false]; exact ne_add0 (by decide)
theorem rem3 (x : Int32) : (x &&& 3) % 3 = 0 ∨ (x &&& 3) % 3 = 1 ∨ (x &&& 3) % 3 = 2 := by
  have e : u32 (x &&& 3) = u32 x % 4 := (u32_and x 3).trans (Nat.and_two_pow_sub_one_eq_mod _ 2)
  have h : u32 x % 4 = 0 ∨ u32 x % 4 = 1 ∨ u32 x % 4 = 2 ∨ u32 x % 4 = 3 := by omega
  rcases h with h | h | h | h <;> rw [h] at e
  · rw [show x &&& 3 = 0 from u32_inj e]; decide
  · rw [show x &&& 3 = 1 from u32_inj e]; decide
  · rw [show x &&& 3 = 2 from u32_inj e]; decide
  · rw [show x &&& 3 = 3 from u32_inj e]; decide
theorem tC {l : Launch} {Z : State} {a0 : Array Value} (hw : ∀ d ∈ tables_1, d.before a0 Z = true) {ρ : oM} {vs ss : List Value} (x k mo k1 k2 p u e mid : Int32) (n s d ce g2 : Int32) (hd : d = n) (hg : (hasD s d = 1 ∧ 0 < g2) ∨ (hasD s d = 0 ∧ ¬ 0 < g2)) : EndsE l Z CK ρ "com/example/ontology_to_datalog/ontologytodatalog/datalog/RelationHasDeltaPinLaw" "law" code maxLocals room_1 ret (279, [.val (.int x), .val (.int k), .val (.int mo), .val (.int k1), .val (.int k2), .val (.int p), .val (.int u), .val (.int e), .val (.ref 0), .val (.ref 1), .val (.ref 2), .val (.ref 3), .val (.ref 4), .val (.int 1), .val (.int mid), .val (.int g2), .unset], [], (.inr (.int, [.int x]) :: .inr (.int, [.int (x + 1)]) :: .inr (.int, [.int (x + 2)]) :: .inr (.int, [.int (x + 3)]) :: .inl (0, [.int 1, .ref 5, .int n, .ref 6, .ref 7, .int s, .int d, .int ce]) :: .inr (.int, vs) :: .inr (.int, ss) :: .inr (.object "com/example/ontology_to_datalog/ontologytodatalog/datalog/Relation$ColumnIndex", [.null]) :: []), 8, 62) (some (.int 1)) := by
  refine EndsE.st (b := (281, _, _, _, 8, 62)) (s_aload at_279 rfl rfl) ?_
  refine EndsE.st (b := (284, _, [_], _, 8, 62)) (s_callV (W := 0) (cid := 0) (hw _ (List.mem_of_getElem? (i := 24) rfl)) (hw _ (List.mem_of_getElem? (i := 26) rfl)) (hw _ (List.mem_of_getElem? (i := 3) rfl)) (hw _ (List.mem_of_getElem? (i := 28) rfl)) (hw _ (List.mem_of_getElem? (i := 25) rfl)) (hw _ (List.mem_of_getElem? (i := 27) rfl)) (by decide) rfl (lenOf pd4 rfl) at_281 rfl (m_hasDelta hw _ _ _ _) rfl rfl (by decide) (by decide) (by decide) (by decide)) ?_
  refine EndsE.st (b := (286, [_, _, _, _, _, _, _, _, _, _, _, _, _, _, _, _, _], _, _, 8, 62)) (s_istore at_284 rfl) ?_
  refine EndsE.st (b := (288, _, _, _, 8, 62)) (s_iload at_286 rfl) ?_
  refine EndsE.st (b := (291, _, _, _, 8, 62)) (s_if_eq_f at_288 (by decide)) ?_
  refine EndsE.st (b := (293, _, _, _, 8, 62)) (s_iload at_291 rfl) ?_
  refine EndsE.st (b := (295, _, _, _, 8, 62)) (s_iload at_293 rfl) ?_
  refine EndsE.if_le (pc' := 302) at_295 (by decide) (by decide) (fun h => ?_) (fun h => ?_)
  · skip
    refine EndsE.st (b := (303, _, _, _, 8, 62)) (s_iconst (z := 0) at_302 rfl) ?_
    refine EndsE.st (b := (306, _, _, _, 8, 62)) (s_icmp_ne_f at_303 (by rcases hg with ⟨a, b⟩ | ⟨a, b⟩ <;> first | exact a | exact absurd b h | exact absurd h b)) ?_
    refine EndsE.st (b := (307, _, _, _, 8, 62)) (s_iconst (z := 1) at_306 rfl) ?_
    refine EndsE.st (b := (311, _, _, _, 8, 62)) (s_goto at_307 (by decide) (by decide)) ?_
    refine EndsE.st (b := (313, [_, _, _, _, _, _, _, _, _, _, _, _, _, _, _, _, _], _, _, 8, 62)) (s_istore at_311 rfl) ?_
    refine EndsE.st (b := (315, _, _, _, 8, 62)) (s_iload at_313 rfl) ?_
    refine EndsE.if_eq (pc' := 343) at_315 (by decide) (by decide) (fun h2 => ?_) (fun h2 => ?_)
    · skip
      refine EndsE.st (b := (345, _, _, _, 8, 62)) (s_iload at_343 rfl) ?_
      exact ⟨_, e_nreturn at_345 rfl (by simp) rfl (by decide) (by decide)⟩
    · skip
      refine EndsE.st (b := (320, _, _, _, 8, 62)) (s_aload at_318 rfl rfl) ?_
      refine EndsE.st (b := (323, _, [], _, 8, 62)) (s_callV (W := 0) (cid := 0) (hw _ (List.mem_of_getElem? (i := 71) rfl)) (hw _ (List.mem_of_getElem? (i := 73) rfl)) (hw _ (List.mem_of_getElem? (i := 3) rfl)) (hw _ (List.mem_of_getElem? (i := 75) rfl)) (hw _ (List.mem_of_getElem? (i := 72) rfl)) (hw _ (List.mem_of_getElem? (i := 74) rfl)) (by decide) rfl (lenOf pd12 rfl) at_320 rfl (m_advance hw _ _ _ _) rfl rfl (by decide) (by decide) (by decide) (by decide)) ?_
      refine EndsE.st (b := (325, _, _, _, 8, 62)) (s_iload at_323 rfl) ?_
      refine EndsE.st (b := (328, _, _, _, 8, 62)) (s_if_eq_f at_325 (by decide)) ?_
      refine EndsE.st (b := (330, _, _, _, 8, 62)) (s_aload at_328 rfl rfl) ?_
      refine EndsE.st (b := (333, _, [_], _, 8, 62)) (s_callV (W := 0) (cid := 0) (hw _ (List.mem_of_getElem? (i := 24) rfl)) (hw _ (List.mem_of_getElem? (i := 26) rfl)) (hw _ (List.mem_of_getElem? (i := 3) rfl)) (hw _ (List.mem_of_getElem? (i := 28) rfl)) (hw _ (List.mem_of_getElem? (i := 25) rfl)) (hw _ (List.mem_of_getElem? (i := 27) rfl)) (by decide) rfl (lenOf pd4 rfl) at_330 rfl (m_hasDelta hw _ _ _ _) rfl rfl (by decide) (by decide) (by decide) (by decide)) ?_
      refine EndsE.st (b := (336, _, _, _, 8, 62)) (s_if_ne_f at_333 (by rw [hd]; exact if_pos (Int32.lt_irrefl))) ?_
      refine EndsE.st (b := (337, _, _, _, 8, 62)) (s_iconst (z := 1) at_336 rfl) ?_
      refine EndsE.st (b := (341, _, _, _, 8, 62)) (s_goto at_337 (by decide) (by decide)) ?_
      refine EndsE.st (b := (343, [_, _, _, _, _, _, _, _, _, _, _, _, _, _, _, _, _], _, _, 8, 62)) (s_istore at_341 rfl) ?_
      refine EndsE.st (b := (345, _, _, _, 8, 62)) (s_iload at_343 rfl) ?_
      exact ⟨_, e_nreturn at_345 rfl (by simp) rfl (by decide) (by decide)⟩
  · skip
    refine EndsE.st (b := (299, _, _, _, 8, 62)) (s_iconst (z := 1) at_298 rfl) ?_
    refine EndsE.st (b := (303, _, _, _, 8, 62)) (s_goto at_299 (by decide) (by decide)) ?_
    refine EndsE.st (b := (306, _, _, _, 8, 62)) (s_icmp_ne_f at_303 (by rcases hg with ⟨a, b⟩ | ⟨a, b⟩ <;> first | exact a | exact absurd b h | exact absurd h b)) ?_
    refine EndsE.st (b := (307, _, _, _, 8, 62)) (s_iconst (z := 1) at_306 rfl) ?_
    refine EndsE.st (b := (311, _, _, _, 8, 62)) (s_goto at_307 (by decide) (by decide)) ?_
    refine EndsE.st (b := (313, [_, _, _, _, _, _, _, _, _, _, _, _, _, _, _, _, _], _, _, 8, 62)) (s_istore at_311 rfl) ?_
    refine EndsE.st (b := (315, _, _, _, 8, 62)) (s_iload at_313 rfl) ?_
    refine EndsE.if_eq (pc' := 343) at_315 (by decide) (by decide) (fun h2 => ?_) (fun h2 => ?_)
    · skip
      refine EndsE.st (b := (345, _, _, _, 8, 62)) (s_iload at_343 rfl) ?_
      exact ⟨_, e_nreturn at_345 rfl (by simp) rfl (by decide) (by decide)⟩
    · skip
      refine EndsE.st (b := (320, _, _, _, 8, 62)) (s_aload at_318 rfl rfl) ?_
      refine EndsE.st (b := (323, _, [], _, 8, 62)) (s_callV (W := 0) (cid := 0) (hw _ (List.mem_of_getElem? (i := 71) rfl)) (hw _ (List.mem_of_getElem? (i := 73) rfl)) (hw _ (List.mem_of_getElem? (i := 3) rfl)) (hw _ (List.mem_of_getElem? (i := 75) rfl)) (hw _ (List.mem_of_getElem? (i := 72) rfl)) (hw _ (List.mem_of_getElem? (i := 74) rfl)) (by decide) rfl (lenOf pd12 rfl) at_320 rfl (m_advance hw _ _ _ _) rfl rfl (by decide) (by decide) (by decide) (by decide)) ?_
      refine EndsE.st (b := (325, _, _, _, 8, 62)) (s_iload at_323 rfl) ?_
      refine EndsE.st (b := (328, _, _, _, 8, 62)) (s_if_eq_f at_325 (by decide)) ?_
      refine EndsE.st (b := (330, _, _, _, 8, 62)) (s_aload at_328 rfl rfl) ?_
      refine EndsE.st (b := (333, _, [_], _, 8, 62)) (s_callV (W := 0) (cid := 0) (hw _ (List.mem_of_getElem? (i := 24) rfl)) (hw _ (List.mem_of_getElem? (i := 26) rfl)) (hw _ (List.mem_of_getElem? (i := 3) rfl)) (hw _ (List.mem_of_getElem? (i := 28) rfl)) (hw _ (List.mem_of_getElem? (i := 25) rfl)) (hw _ (List.mem_of_getElem? (i := 27) rfl)) (by decide) rfl (lenOf pd4 rfl) at_330 rfl (m_hasDelta hw _ _ _ _) rfl rfl (by decide) (by decide) (by decide) (by decide)) ?_
      refine EndsE.st (b := (336, _, _, _, 8, 62)) (s_if_ne_f at_333 (by rw [hd]; exact if_pos (Int32.lt_irrefl))) ?_
      refine EndsE.st (b := (337, _, _, _, 8, 62)) (s_iconst (z := 1) at_336 rfl) ?_
      refine EndsE.st (b := (341, _, _, _, 8, 62)) (s_goto at_337 (by decide) (by decide)) ?_
      refine EndsE.st (b := (343, [_, _, _, _, _, _, _, _, _, _, _, _, _, _, _, _, _], _, _, 8, 62)) (s_istore at_341 rfl) ?_
      refine EndsE.st (b := (345, _, _, _, 8, 62)) (s_iload at_343 rfl) ?_
      exact ⟨_, e_nreturn at_345 rfl (by simp) rfl (by decide) (by decide)⟩
theorem tB000 {l : Launch} {Z : State} {a0 : Array Value} (hw : ∀ d ∈ tables_1, d.before a0 Z = true) {ρ : oM} {vs ss : List Value} (x k mo u e mid s d ce : Int32) (G : Good vs ss 0 x [] false) (h1 : u = 0 → d = (Int32.ofNat 0)) (h2 : ¬ u = 0 → ce = (Int32.ofNat 0)) : EndsE l Z CK ρ "com/example/ontology_to_datalog/ontologytodatalog/datalog/RelationHasDeltaPinLaw" "law" code maxLocals room_1 ret (202, [.val (.int x), .val (.int k), .val (.int mo), .val (.int 0), .val (.int 0), .val (.int 0), .val (.int u), .val (.int e), .val (.ref 0), .val (.ref 1), .val (.ref 2), .val (.ref 3), .val (.ref 4), .val (.int 1), .val (.int mid), .unset, .unset], [], (.inr (.int, [.int x]) :: .inr (.int, [.int (x + 1)]) :: .inr (.int, [.int (x + 2)]) :: .inr (.int, [.int (x + 3)]) :: .inl (0, [.int 1, .ref 5, .int (Int32.ofNat 0), .ref 6, .ref 7, .int s, .int d, .int ce]) :: .inr (.int, vs) :: .inr (.int, ss) :: .inr (.object "com/example/ontology_to_datalog/ontologytodatalog/datalog/Relation$ColumnIndex", [.null]) :: []), 8, 62) (some (.int 1)) := by
  refine EndsE.st (b := (204, _, _, _, 8, 62)) (s_iload at_202 rfl) ?_
  refine EndsE.st (b := (215, _, _, _, 8, 62)) (s_if_le_t at_204 (by decide) (by decide) (by decide)) ?_
  refine EndsE.st (b := (217, _, _, _, 8, 62)) (s_iload at_215 rfl) ?_
  refine EndsE.st (b := (218, _, _, _, 8, 62)) (s_iconst (z := 1) at_217 rfl) ?_
  refine EndsE.st (b := (229, _, _, _, 8, 62)) (s_icmp_le_t at_218 (by decide) (by decide) (by decide)) ?_
  refine EndsE.st (b := (231, _, _, _, 8, 62)) (s_iload at_229 rfl) ?_
  refine EndsE.st (b := (242, _, _, _, 8, 62)) (s_if_eq_t at_231 (by decide) (by decide) (by decide)) ?_
  refine EndsE.st (b := (244, _, _, _, 8, 62)) (s_iload at_242 rfl) ?_
  refine EndsE.st (b := (246, _, _, _, 8, 62)) (s_iload at_244 rfl) ?_
  refine EndsE.st (b := (257, _, _, _, 8, 62)) (s_if_eq_t at_246 (by decide) (by decide) (by decide)) ?_
  refine EndsE.st (b := (258, _, _, _, 8, 62)) (s_iconst (z := 0) at_257 rfl) ?_
  refine EndsE.st (b := (259, _, _, _, 8, 62)) (s_iadd at_258) ?_
  refine EndsE.st (b := (261, [_, _, _, _, _, _, _, _, _, _, _, _, _, _, _, _, _], _, _, 8, 62)) (s_istore at_259 rfl) ?_
  refine EndsE.st (b := (263, _, _, _, 8, 62)) (s_iload at_261 rfl) ?_
  refine EndsE.if_eq (pc' := 274) at_263 (by decide) (by decide) (fun h => ?_) (fun h => ?_)
  · skip
    rw [h1 h]
    refine EndsE.st (b := (276, _, _, _, 8, 62)) (s_aload at_274 rfl rfl) ?_
    refine EndsE.st (b := (279, _, [], _, 8, 62)) (s_callV (W := 0) (cid := 0) (hw _ (List.mem_of_getElem? (i := 71) rfl)) (hw _ (List.mem_of_getElem? (i := 73) rfl)) (hw _ (List.mem_of_getElem? (i := 3) rfl)) (hw _ (List.mem_of_getElem? (i := 75) rfl)) (hw _ (List.mem_of_getElem? (i := 72) rfl)) (hw _ (List.mem_of_getElem? (i := 74) rfl)) (by decide) rfl (lenOf pd12 rfl) at_276 rfl (m_advance hw _ _ _ _) rfl rfl (by decide) (by decide) (by decide) (by decide)) ?_
    exact tC hw _ _ _ _ _ _ _ _ _ _ _ _ _ _ rfl (Or.inr ⟨by decide, by decide⟩)
  · skip
    rw [h2 h]
    refine EndsE.st (b := (268, _, _, _, 8, 62)) (s_aload at_266 rfl rfl) ?_
    refine EndsE.st (b := (271, _, [], _, 8, 62)) (s_callV (W := 0) (cid := 0) (hw _ (List.mem_of_getElem? (i := 42) rfl)) (hw _ (List.mem_of_getElem? (i := 44) rfl)) (hw _ (List.mem_of_getElem? (i := 3) rfl)) (hw _ (List.mem_of_getElem? (i := 46) rfl)) (hw _ (List.mem_of_getElem? (i := 43) rfl)) (hw _ (List.mem_of_getElem? (i := 45) rfl)) (by decide) rfl (lenOf pd6 rfl) at_268 rfl (m_makeUncertainDelta hw _ _ _ _) rfl rfl (by decide) (by decide) (by decide) (by decide)) ?_
    refine EndsE.st (b := (279, _, _, _, 8, 62)) (s_goto at_271 (by decide) (by decide)) ?_
    exact tC hw _ _ _ _ _ _ _ _ _ _ _ _ _ _ rfl (Or.inr ⟨by decide, by decide⟩)
theorem tB001 {l : Launch} {Z : State} {a0 : Array Value} (hw : ∀ d ∈ tables_1, d.before a0 Z = true) {ρ : oM} {vs ss : List Value} (x k mo u e mid s d ce : Int32) (G : Good vs ss 0 x [] false) (h1 : u = 0 → d = (Int32.ofNat 0)) (h2 : ¬ u = 0 → ce = (Int32.ofNat 0)) : EndsE l Z CK ρ "com/example/ontology_to_datalog/ontologytodatalog/datalog/RelationHasDeltaPinLaw" "law" code maxLocals room_1 ret (202, [.val (.int x), .val (.int k), .val (.int mo), .val (.int 0), .val (.int 0), .val (.int 1), .val (.int u), .val (.int e), .val (.ref 0), .val (.ref 1), .val (.ref 2), .val (.ref 3), .val (.ref 4), .val (.int 1), .val (.int mid), .unset, .unset], [], (.inr (.int, [.int x]) :: .inr (.int, [.int (x + 1)]) :: .inr (.int, [.int (x + 2)]) :: .inr (.int, [.int (x + 3)]) :: .inl (0, [.int 1, .ref 5, .int (Int32.ofNat 0), .ref 6, .ref 7, .int s, .int d, .int ce]) :: .inr (.int, vs) :: .inr (.int, ss) :: .inr (.object "com/example/ontology_to_datalog/ontologytodatalog/datalog/Relation$ColumnIndex", [.null]) :: []), 8, 62) (some (.int 1)) := by
  obtain ⟨vs1, ss1, G1, M1⟩ := gNew (l := l) (ρ := ρ) (s := s) (d := d) (ce := ce) hw (t0 := .inr (.int, [.int x])) (t1 := .inr (.int, [.int (x + 1)])) (t2 := .inr (.int, [.int (x + 2)])) (t3 := .inr (.int, [.int (x + 3)])) G (by decide) 0 (x) rfl List.not_mem_nil (fun z => Bool.noConfusion z)
  refine EndsE.st (b := (204, _, _, _, 8, 62)) (s_iload at_202 rfl) ?_
  refine EndsE.st (b := (215, _, _, _, 8, 62)) (s_if_le_t at_204 (by decide) (by decide) (by decide)) ?_
  refine EndsE.st (b := (217, _, _, _, 8, 62)) (s_iload at_215 rfl) ?_
  refine EndsE.st (b := (218, _, _, _, 8, 62)) (s_iconst (z := 1) at_217 rfl) ?_
  refine EndsE.st (b := (229, _, _, _, 8, 62)) (s_icmp_le_t at_218 (by decide) (by decide) (by decide)) ?_
  refine EndsE.st (b := (231, _, _, _, 8, 62)) (s_iload at_229 rfl) ?_
  refine EndsE.st (b := (234, _, _, _, 8, 62)) (s_if_eq_f at_231 (by decide)) ?_
  refine EndsE.st (b := (236, _, _, _, 8, 62)) (s_aload at_234 rfl rfl) ?_
  refine EndsE.st (b := (238, _, _, _, 8, 62)) (s_aload at_236 rfl rfl) ?_
  refine EndsE.st (b := (241, _, [_], _, 8, 62)) (s_callV (W := 0) (cid := 0) (hw _ (List.mem_of_getElem? (i := 47) rfl)) (hw _ (List.mem_of_getElem? (i := 49) rfl)) (hw _ (List.mem_of_getElem? (i := 3) rfl)) (hw _ (List.mem_of_getElem? (i := 51) rfl)) (hw _ (List.mem_of_getElem? (i := 48) rfl)) (hw _ (List.mem_of_getElem? (i := 50) rfl)) (by decide) rfl (lenOf pd7 rfl) at_238 rfl (M1) rfl rfl (by decide) (by decide) (by decide) (by decide)) ?_
  refine EndsE.st (b := (242, _, _, _, 8, 62)) (s_pop at_241 rfl) ?_
  refine EndsE.st (b := (244, _, _, _, 8, 62)) (s_iload at_242 rfl) ?_
  refine EndsE.st (b := (246, _, _, _, 8, 62)) (s_iload at_244 rfl) ?_
  refine EndsE.st (b := (249, _, _, _, 8, 62)) (s_if_eq_f at_246 (by decide)) ?_
  refine EndsE.st (b := (250, _, _, _, 8, 62)) (s_iloadN at_249 rfl) ?_
  refine EndsE.st (b := (253, _, _, _, 8, 62)) (s_if_ne_f at_250 rfl) ?_
  refine EndsE.st (b := (254, _, _, _, 8, 62)) (s_iconst (z := 1) at_253 rfl) ?_
  refine EndsE.st (b := (258, _, _, _, 8, 62)) (s_goto at_254 (by decide) (by decide)) ?_
  refine EndsE.st (b := (259, _, _, _, 8, 62)) (s_iadd at_258) ?_
  refine EndsE.st (b := (261, [_, _, _, _, _, _, _, _, _, _, _, _, _, _, _, _, _], _, _, 8, 62)) (s_istore at_259 rfl) ?_
  refine EndsE.st (b := (263, _, _, _, 8, 62)) (s_iload at_261 rfl) ?_
  refine EndsE.if_eq (pc' := 274) at_263 (by decide) (by decide) (fun h => ?_) (fun h => ?_)
  · skip
    rw [h1 h]
    refine EndsE.st (b := (276, _, _, _, 8, 62)) (s_aload at_274 rfl rfl) ?_
    refine EndsE.st (b := (279, _, [], _, 8, 62)) (s_callV (W := 0) (cid := 0) (hw _ (List.mem_of_getElem? (i := 71) rfl)) (hw _ (List.mem_of_getElem? (i := 73) rfl)) (hw _ (List.mem_of_getElem? (i := 3) rfl)) (hw _ (List.mem_of_getElem? (i := 75) rfl)) (hw _ (List.mem_of_getElem? (i := 72) rfl)) (hw _ (List.mem_of_getElem? (i := 74) rfl)) (by decide) rfl (lenOf pd12 rfl) at_276 rfl (m_advance hw _ _ _ _) rfl rfl (by decide) (by decide) (by decide) (by decide)) ?_
    exact tC hw _ _ _ _ _ _ _ _ _ _ _ _ _ _ rfl (Or.inl ⟨by decide, by decide⟩)
  · skip
    rw [h2 h]
    refine EndsE.st (b := (268, _, _, _, 8, 62)) (s_aload at_266 rfl rfl) ?_
    refine EndsE.st (b := (271, _, [], _, 8, 62)) (s_callV (W := 0) (cid := 0) (hw _ (List.mem_of_getElem? (i := 42) rfl)) (hw _ (List.mem_of_getElem? (i := 44) rfl)) (hw _ (List.mem_of_getElem? (i := 3) rfl)) (hw _ (List.mem_of_getElem? (i := 46) rfl)) (hw _ (List.mem_of_getElem? (i := 43) rfl)) (hw _ (List.mem_of_getElem? (i := 45) rfl)) (by decide) rfl (lenOf pd6 rfl) at_268 rfl (m_makeUncertainDelta hw _ _ _ _) rfl rfl (by decide) (by decide) (by decide) (by decide)) ?_
    refine EndsE.st (b := (279, _, _, _, 8, 62)) (s_goto at_271 (by decide) (by decide)) ?_
    exact tC hw _ _ _ _ _ _ _ _ _ _ _ _ _ _ rfl (Or.inl ⟨by decide, by decide⟩)
theorem tB010 {l : Launch} {Z : State} {a0 : Array Value} (hw : ∀ d ∈ tables_1, d.before a0 Z = true) {ρ : oM} {vs ss : List Value} (x k mo u e mid s d ce : Int32) (G : Good vs ss 0 x [] false) (h1 : u = 0 → d = (Int32.ofNat 0)) (h2 : ¬ u = 0 → ce = (Int32.ofNat 0)) : EndsE l Z CK ρ "com/example/ontology_to_datalog/ontologytodatalog/datalog/RelationHasDeltaPinLaw" "law" code maxLocals room_1 ret (202, [.val (.int x), .val (.int k), .val (.int mo), .val (.int 0), .val (.int 1), .val (.int 0), .val (.int u), .val (.int e), .val (.ref 0), .val (.ref 1), .val (.ref 2), .val (.ref 3), .val (.ref 4), .val (.int 1), .val (.int mid), .unset, .unset], [], (.inr (.int, [.int x]) :: .inr (.int, [.int (x + 1)]) :: .inr (.int, [.int (x + 2)]) :: .inr (.int, [.int (x + 3)]) :: .inl (0, [.int 1, .ref 5, .int (Int32.ofNat 0), .ref 6, .ref 7, .int s, .int d, .int ce]) :: .inr (.int, vs) :: .inr (.int, ss) :: .inr (.object "com/example/ontology_to_datalog/ontologytodatalog/datalog/Relation$ColumnIndex", [.null]) :: []), 8, 62) (some (.int 1)) := by
  obtain ⟨vs1, ss1, G1, M1⟩ := gNew (l := l) (ρ := ρ) (s := s) (d := d) (ce := ce) hw (t0 := .inr (.int, [.int x])) (t1 := .inr (.int, [.int (x + 1)])) (t2 := .inr (.int, [.int (x + 2)])) (t3 := .inr (.int, [.int (x + 3)])) G (by decide) 2 (x + 2) rfl List.not_mem_nil (fun z => Bool.noConfusion z)
  refine EndsE.st (b := (204, _, _, _, 8, 62)) (s_iload at_202 rfl) ?_
  refine EndsE.st (b := (207, _, _, _, 8, 62)) (s_if_le_f at_204 (by decide)) ?_
  refine EndsE.st (b := (209, _, _, _, 8, 62)) (s_aload at_207 rfl rfl) ?_
  refine EndsE.st (b := (211, _, _, _, 8, 62)) (s_aload at_209 rfl rfl) ?_
  refine EndsE.st (b := (214, _, [_], _, 8, 62)) (s_callV (W := 0) (cid := 0) (hw _ (List.mem_of_getElem? (i := 47) rfl)) (hw _ (List.mem_of_getElem? (i := 49) rfl)) (hw _ (List.mem_of_getElem? (i := 3) rfl)) (hw _ (List.mem_of_getElem? (i := 51) rfl)) (hw _ (List.mem_of_getElem? (i := 48) rfl)) (hw _ (List.mem_of_getElem? (i := 50) rfl)) (by decide) rfl (lenOf pd7 rfl) at_211 rfl (M1) rfl rfl (by decide) (by decide) (by decide) (by decide)) ?_
  refine EndsE.st (b := (215, _, _, _, 8, 62)) (s_pop at_214 rfl) ?_
  refine EndsE.st (b := (217, _, _, _, 8, 62)) (s_iload at_215 rfl) ?_
  refine EndsE.st (b := (218, _, _, _, 8, 62)) (s_iconst (z := 1) at_217 rfl) ?_
  refine EndsE.st (b := (229, _, _, _, 8, 62)) (s_icmp_le_t at_218 (by decide) (by decide) (by decide)) ?_
  refine EndsE.st (b := (231, _, _, _, 8, 62)) (s_iload at_229 rfl) ?_
  refine EndsE.st (b := (242, _, _, _, 8, 62)) (s_if_eq_t at_231 (by decide) (by decide) (by decide)) ?_
  refine EndsE.st (b := (244, _, _, _, 8, 62)) (s_iload at_242 rfl) ?_
  refine EndsE.st (b := (246, _, _, _, 8, 62)) (s_iload at_244 rfl) ?_
  refine EndsE.st (b := (257, _, _, _, 8, 62)) (s_if_eq_t at_246 (by decide) (by decide) (by decide)) ?_
  refine EndsE.st (b := (258, _, _, _, 8, 62)) (s_iconst (z := 0) at_257 rfl) ?_
  refine EndsE.st (b := (259, _, _, _, 8, 62)) (s_iadd at_258) ?_
  refine EndsE.st (b := (261, [_, _, _, _, _, _, _, _, _, _, _, _, _, _, _, _, _], _, _, 8, 62)) (s_istore at_259 rfl) ?_
  refine EndsE.st (b := (263, _, _, _, 8, 62)) (s_iload at_261 rfl) ?_
  refine EndsE.if_eq (pc' := 274) at_263 (by decide) (by decide) (fun h => ?_) (fun h => ?_)
  · skip
    rw [h1 h]
    refine EndsE.st (b := (276, _, _, _, 8, 62)) (s_aload at_274 rfl rfl) ?_
    refine EndsE.st (b := (279, _, [], _, 8, 62)) (s_callV (W := 0) (cid := 0) (hw _ (List.mem_of_getElem? (i := 71) rfl)) (hw _ (List.mem_of_getElem? (i := 73) rfl)) (hw _ (List.mem_of_getElem? (i := 3) rfl)) (hw _ (List.mem_of_getElem? (i := 75) rfl)) (hw _ (List.mem_of_getElem? (i := 72) rfl)) (hw _ (List.mem_of_getElem? (i := 74) rfl)) (by decide) rfl (lenOf pd12 rfl) at_276 rfl (m_advance hw _ _ _ _) rfl rfl (by decide) (by decide) (by decide) (by decide)) ?_
    exact tC hw _ _ _ _ _ _ _ _ _ _ _ _ _ _ rfl (Or.inl ⟨by decide, by decide⟩)
  · skip
    rw [h2 h]
    refine EndsE.st (b := (268, _, _, _, 8, 62)) (s_aload at_266 rfl rfl) ?_
    refine EndsE.st (b := (271, _, [], _, 8, 62)) (s_callV (W := 0) (cid := 0) (hw _ (List.mem_of_getElem? (i := 42) rfl)) (hw _ (List.mem_of_getElem? (i := 44) rfl)) (hw _ (List.mem_of_getElem? (i := 3) rfl)) (hw _ (List.mem_of_getElem? (i := 46) rfl)) (hw _ (List.mem_of_getElem? (i := 43) rfl)) (hw _ (List.mem_of_getElem? (i := 45) rfl)) (by decide) rfl (lenOf pd6 rfl) at_268 rfl (m_makeUncertainDelta hw _ _ _ _) rfl rfl (by decide) (by decide) (by decide) (by decide)) ?_
    refine EndsE.st (b := (279, _, _, _, 8, 62)) (s_goto at_271 (by decide) (by decide)) ?_
    exact tC hw _ _ _ _ _ _ _ _ _ _ _ _ _ _ rfl (Or.inl ⟨by decide, by decide⟩)
theorem tB011 {l : Launch} {Z : State} {a0 : Array Value} (hw : ∀ d ∈ tables_1, d.before a0 Z = true) {ρ : oM} {vs ss : List Value} (x k mo u e mid s d ce : Int32) (G : Good vs ss 0 x [] false) (h1 : u = 0 → d = (Int32.ofNat 0)) (h2 : ¬ u = 0 → ce = (Int32.ofNat 0)) : EndsE l Z CK ρ "com/example/ontology_to_datalog/ontologytodatalog/datalog/RelationHasDeltaPinLaw" "law" code maxLocals room_1 ret (202, [.val (.int x), .val (.int k), .val (.int mo), .val (.int 0), .val (.int 1), .val (.int 1), .val (.int u), .val (.int e), .val (.ref 0), .val (.ref 1), .val (.ref 2), .val (.ref 3), .val (.ref 4), .val (.int 1), .val (.int mid), .unset, .unset], [], (.inr (.int, [.int x]) :: .inr (.int, [.int (x + 1)]) :: .inr (.int, [.int (x + 2)]) :: .inr (.int, [.int (x + 3)]) :: .inl (0, [.int 1, .ref 5, .int (Int32.ofNat 0), .ref 6, .ref 7, .int s, .int d, .int ce]) :: .inr (.int, vs) :: .inr (.int, ss) :: .inr (.object "com/example/ontology_to_datalog/ontologytodatalog/datalog/Relation$ColumnIndex", [.null]) :: []), 8, 62) (some (.int 1)) := by
  obtain ⟨vs1, ss1, G1, M1⟩ := gNew (l := l) (ρ := ρ) (s := s) (d := d) (ce := ce) hw (t0 := .inr (.int, [.int x])) (t1 := .inr (.int, [.int (x + 1)])) (t2 := .inr (.int, [.int (x + 2)])) (t3 := .inr (.int, [.int (x + 3)])) G (by decide) 2 (x + 2) rfl List.not_mem_nil (fun z => Bool.noConfusion z)
  obtain ⟨vs2, ss2, G2, M2⟩ := gNew (l := l) (ρ := ρ) (s := s) (d := d) (ce := ce) hw (t0 := .inr (.int, [.int x])) (t1 := .inr (.int, [.int (x + 1)])) (t2 := .inr (.int, [.int (x + 2)])) (t3 := .inr (.int, [.int (x + 3)])) G1 (by decide) 0 (x) rfl (by simp only [List.mem_cons, List.not_mem_nil, or_false, not_or]; exact (fun z => ne_add0 (x := x) (a := 2) (by decide) z.symm)) (fun z => Bool.noConfusion z)
  refine EndsE.st (b := (204, _, _, _, 8, 62)) (s_iload at_202 rfl) ?_
  refine EndsE.st (b := (207, _, _, _, 8, 62)) (s_if_le_f at_204 (by decide)) ?_
  refine EndsE.st (b := (209, _, _, _, 8, 62)) (s_aload at_207 rfl rfl) ?_
  refine EndsE.st (b := (211, _, _, _, 8, 62)) (s_aload at_209 rfl rfl) ?_
  refine EndsE.st (b := (214, _, [_], _, 8, 62)) (s_callV (W := 0) (cid := 0) (hw _ (List.mem_of_getElem? (i := 47) rfl)) (hw _ (List.mem_of_getElem? (i := 49) rfl)) (hw _ (List.mem_of_getElem? (i := 3) rfl)) (hw _ (List.mem_of_getElem? (i := 51) rfl)) (hw _ (List.mem_of_getElem? (i := 48) rfl)) (hw _ (List.mem_of_getElem? (i := 50) rfl)) (by decide) rfl (lenOf pd7 rfl) at_211 rfl (M1) rfl rfl (by decide) (by decide) (by decide) (by decide)) ?_
  refine EndsE.st (b := (215, _, _, _, 8, 62)) (s_pop at_214 rfl) ?_
  refine EndsE.st (b := (217, _, _, _, 8, 62)) (s_iload at_215 rfl) ?_
  refine EndsE.st (b := (218, _, _, _, 8, 62)) (s_iconst (z := 1) at_217 rfl) ?_
  refine EndsE.st (b := (229, _, _, _, 8, 62)) (s_icmp_le_t at_218 (by decide) (by decide) (by decide)) ?_
  refine EndsE.st (b := (231, _, _, _, 8, 62)) (s_iload at_229 rfl) ?_
  refine EndsE.st (b := (234, _, _, _, 8, 62)) (s_if_eq_f at_231 (by decide)) ?_
  refine EndsE.st (b := (236, _, _, _, 8, 62)) (s_aload at_234 rfl rfl) ?_
  refine EndsE.st (b := (238, _, _, _, 8, 62)) (s_aload at_236 rfl rfl) ?_
  refine EndsE.st (b := (241, _, [_], _, 8, 62)) (s_callV (W := 0) (cid := 0) (hw _ (List.mem_of_getElem? (i := 47) rfl)) (hw _ (List.mem_of_getElem? (i := 49) rfl)) (hw _ (List.mem_of_getElem? (i := 3) rfl)) (hw _ (List.mem_of_getElem? (i := 51) rfl)) (hw _ (List.mem_of_getElem? (i := 48) rfl)) (hw _ (List.mem_of_getElem? (i := 50) rfl)) (by decide) rfl (lenOf pd7 rfl) at_238 rfl (M2) rfl rfl (by decide) (by decide) (by decide) (by decide)) ?_
  refine EndsE.st (b := (242, _, _, _, 8, 62)) (s_pop at_241 rfl) ?_
  refine EndsE.st (b := (244, _, _, _, 8, 62)) (s_iload at_242 rfl) ?_
  refine EndsE.st (b := (246, _, _, _, 8, 62)) (s_iload at_244 rfl) ?_
  refine EndsE.st (b := (249, _, _, _, 8, 62)) (s_if_eq_f at_246 (by decide)) ?_
  refine EndsE.st (b := (250, _, _, _, 8, 62)) (s_iloadN at_249 rfl) ?_
  refine EndsE.st (b := (253, _, _, _, 8, 62)) (s_if_ne_f at_250 rfl) ?_
  refine EndsE.st (b := (254, _, _, _, 8, 62)) (s_iconst (z := 1) at_253 rfl) ?_
  refine EndsE.st (b := (258, _, _, _, 8, 62)) (s_goto at_254 (by decide) (by decide)) ?_
  refine EndsE.st (b := (259, _, _, _, 8, 62)) (s_iadd at_258) ?_
  refine EndsE.st (b := (261, [_, _, _, _, _, _, _, _, _, _, _, _, _, _, _, _, _], _, _, 8, 62)) (s_istore at_259 rfl) ?_
  refine EndsE.st (b := (263, _, _, _, 8, 62)) (s_iload at_261 rfl) ?_
  refine EndsE.if_eq (pc' := 274) at_263 (by decide) (by decide) (fun h => ?_) (fun h => ?_)
  · skip
    rw [h1 h]
    refine EndsE.st (b := (276, _, _, _, 8, 62)) (s_aload at_274 rfl rfl) ?_
    refine EndsE.st (b := (279, _, [], _, 8, 62)) (s_callV (W := 0) (cid := 0) (hw _ (List.mem_of_getElem? (i := 71) rfl)) (hw _ (List.mem_of_getElem? (i := 73) rfl)) (hw _ (List.mem_of_getElem? (i := 3) rfl)) (hw _ (List.mem_of_getElem? (i := 75) rfl)) (hw _ (List.mem_of_getElem? (i := 72) rfl)) (hw _ (List.mem_of_getElem? (i := 74) rfl)) (by decide) rfl (lenOf pd12 rfl) at_276 rfl (m_advance hw _ _ _ _) rfl rfl (by decide) (by decide) (by decide) (by decide)) ?_
    exact tC hw _ _ _ _ _ _ _ _ _ _ _ _ _ _ rfl (Or.inl ⟨by decide, by decide⟩)
  · skip
    rw [h2 h]
    refine EndsE.st (b := (268, _, _, _, 8, 62)) (s_aload at_266 rfl rfl) ?_
    refine EndsE.st (b := (271, _, [], _, 8, 62)) (s_callV (W := 0) (cid := 0) (hw _ (List.mem_of_getElem? (i := 42) rfl)) (hw _ (List.mem_of_getElem? (i := 44) rfl)) (hw _ (List.mem_of_getElem? (i := 3) rfl)) (hw _ (List.mem_of_getElem? (i := 46) rfl)) (hw _ (List.mem_of_getElem? (i := 43) rfl)) (hw _ (List.mem_of_getElem? (i := 45) rfl)) (by decide) rfl (lenOf pd6 rfl) at_268 rfl (m_makeUncertainDelta hw _ _ _ _) rfl rfl (by decide) (by decide) (by decide) (by decide)) ?_
    refine EndsE.st (b := (279, _, _, _, 8, 62)) (s_goto at_271 (by decide) (by decide)) ?_
    exact tC hw _ _ _ _ _ _ _ _ _ _ _ _ _ _ rfl (Or.inl ⟨by decide, by decide⟩)
theorem tB020 {l : Launch} {Z : State} {a0 : Array Value} (hw : ∀ d ∈ tables_1, d.before a0 Z = true) {ρ : oM} {vs ss : List Value} (x k mo u e mid s d ce : Int32) (G : Good vs ss 0 x [] false) (h1 : u = 0 → d = (Int32.ofNat 0)) (h2 : ¬ u = 0 → ce = (Int32.ofNat 0)) : EndsE l Z CK ρ "com/example/ontology_to_datalog/ontologytodatalog/datalog/RelationHasDeltaPinLaw" "law" code maxLocals room_1 ret (202, [.val (.int x), .val (.int k), .val (.int mo), .val (.int 0), .val (.int 2), .val (.int 0), .val (.int u), .val (.int e), .val (.ref 0), .val (.ref 1), .val (.ref 2), .val (.ref 3), .val (.ref 4), .val (.int 1), .val (.int mid), .unset, .unset], [], (.inr (.int, [.int x]) :: .inr (.int, [.int (x + 1)]) :: .inr (.int, [.int (x + 2)]) :: .inr (.int, [.int (x + 3)]) :: .inl (0, [.int 1, .ref 5, .int (Int32.ofNat 0), .ref 6, .ref 7, .int s, .int d, .int ce]) :: .inr (.int, vs) :: .inr (.int, ss) :: .inr (.object "com/example/ontology_to_datalog/ontologytodatalog/datalog/Relation$ColumnIndex", [.null]) :: []), 8, 62) (some (.int 1)) := by
  obtain ⟨vs1, ss1, G1, M1⟩ := gNew (l := l) (ρ := ρ) (s := s) (d := d) (ce := ce) hw (t0 := .inr (.int, [.int x])) (t1 := .inr (.int, [.int (x + 1)])) (t2 := .inr (.int, [.int (x + 2)])) (t3 := .inr (.int, [.int (x + 3)])) G (by decide) 2 (x + 2) rfl List.not_mem_nil (fun z => Bool.noConfusion z)
  obtain ⟨vs2, ss2, G2, M2⟩ := gNew (l := l) (ρ := ρ) (s := s) (d := d) (ce := ce) hw (t0 := .inr (.int, [.int x])) (t1 := .inr (.int, [.int (x + 1)])) (t2 := .inr (.int, [.int (x + 2)])) (t3 := .inr (.int, [.int (x + 3)])) G1 (by decide) 3 (x + 3) rfl (by simp only [List.mem_cons, List.not_mem_nil, or_false, not_or]; exact (ne_add (by decide))) (fun z => Bool.noConfusion z)
  refine EndsE.st (b := (204, _, _, _, 8, 62)) (s_iload at_202 rfl) ?_
  refine EndsE.st (b := (207, _, _, _, 8, 62)) (s_if_le_f at_204 (by decide)) ?_
  refine EndsE.st (b := (209, _, _, _, 8, 62)) (s_aload at_207 rfl rfl) ?_
  refine EndsE.st (b := (211, _, _, _, 8, 62)) (s_aload at_209 rfl rfl) ?_
  refine EndsE.st (b := (214, _, [_], _, 8, 62)) (s_callV (W := 0) (cid := 0) (hw _ (List.mem_of_getElem? (i := 47) rfl)) (hw _ (List.mem_of_getElem? (i := 49) rfl)) (hw _ (List.mem_of_getElem? (i := 3) rfl)) (hw _ (List.mem_of_getElem? (i := 51) rfl)) (hw _ (List.mem_of_getElem? (i := 48) rfl)) (hw _ (List.mem_of_getElem? (i := 50) rfl)) (by decide) rfl (lenOf pd7 rfl) at_211 rfl (M1) rfl rfl (by decide) (by decide) (by decide) (by decide)) ?_
  refine EndsE.st (b := (215, _, _, _, 8, 62)) (s_pop at_214 rfl) ?_
  refine EndsE.st (b := (217, _, _, _, 8, 62)) (s_iload at_215 rfl) ?_
  refine EndsE.st (b := (218, _, _, _, 8, 62)) (s_iconst (z := 1) at_217 rfl) ?_
  refine EndsE.st (b := (221, _, _, _, 8, 62)) (s_icmp_le_f at_218 (by decide)) ?_
  refine EndsE.st (b := (223, _, _, _, 8, 62)) (s_aload at_221 rfl rfl) ?_
  refine EndsE.st (b := (225, _, _, _, 8, 62)) (s_aload at_223 rfl rfl) ?_
  refine EndsE.st (b := (228, _, [_], _, 8, 62)) (s_callV (W := 0) (cid := 0) (hw _ (List.mem_of_getElem? (i := 47) rfl)) (hw _ (List.mem_of_getElem? (i := 49) rfl)) (hw _ (List.mem_of_getElem? (i := 3) rfl)) (hw _ (List.mem_of_getElem? (i := 51) rfl)) (hw _ (List.mem_of_getElem? (i := 48) rfl)) (hw _ (List.mem_of_getElem? (i := 50) rfl)) (by decide) rfl (lenOf pd7 rfl) at_225 rfl (M2) rfl rfl (by decide) (by decide) (by decide) (by decide)) ?_
  refine EndsE.st (b := (229, _, _, _, 8, 62)) (s_pop at_228 rfl) ?_
  refine EndsE.st (b := (231, _, _, _, 8, 62)) (s_iload at_229 rfl) ?_
  refine EndsE.st (b := (242, _, _, _, 8, 62)) (s_if_eq_t at_231 (by decide) (by decide) (by decide)) ?_
  refine EndsE.st (b := (244, _, _, _, 8, 62)) (s_iload at_242 rfl) ?_
  refine EndsE.st (b := (246, _, _, _, 8, 62)) (s_iload at_244 rfl) ?_
  refine EndsE.st (b := (257, _, _, _, 8, 62)) (s_if_eq_t at_246 (by decide) (by decide) (by decide)) ?_
  refine EndsE.st (b := (258, _, _, _, 8, 62)) (s_iconst (z := 0) at_257 rfl) ?_
  refine EndsE.st (b := (259, _, _, _, 8, 62)) (s_iadd at_258) ?_
  refine EndsE.st (b := (261, [_, _, _, _, _, _, _, _, _, _, _, _, _, _, _, _, _], _, _, 8, 62)) (s_istore at_259 rfl) ?_
  refine EndsE.st (b := (263, _, _, _, 8, 62)) (s_iload at_261 rfl) ?_
  refine EndsE.if_eq (pc' := 274) at_263 (by decide) (by decide) (fun h => ?_) (fun h => ?_)
  · skip
    rw [h1 h]
    refine EndsE.st (b := (276, _, _, _, 8, 62)) (s_aload at_274 rfl rfl) ?_
    refine EndsE.st (b := (279, _, [], _, 8, 62)) (s_callV (W := 0) (cid := 0) (hw _ (List.mem_of_getElem? (i := 71) rfl)) (hw _ (List.mem_of_getElem? (i := 73) rfl)) (hw _ (List.mem_of_getElem? (i := 3) rfl)) (hw _ (List.mem_of_getElem? (i := 75) rfl)) (hw _ (List.mem_of_getElem? (i := 72) rfl)) (hw _ (List.mem_of_getElem? (i := 74) rfl)) (by decide) rfl (lenOf pd12 rfl) at_276 rfl (m_advance hw _ _ _ _) rfl rfl (by decide) (by decide) (by decide) (by decide)) ?_
    exact tC hw _ _ _ _ _ _ _ _ _ _ _ _ _ _ rfl (Or.inl ⟨by decide, by decide⟩)
  · skip
    rw [h2 h]
    refine EndsE.st (b := (268, _, _, _, 8, 62)) (s_aload at_266 rfl rfl) ?_
    refine EndsE.st (b := (271, _, [], _, 8, 62)) (s_callV (W := 0) (cid := 0) (hw _ (List.mem_of_getElem? (i := 42) rfl)) (hw _ (List.mem_of_getElem? (i := 44) rfl)) (hw _ (List.mem_of_getElem? (i := 3) rfl)) (hw _ (List.mem_of_getElem? (i := 46) rfl)) (hw _ (List.mem_of_getElem? (i := 43) rfl)) (hw _ (List.mem_of_getElem? (i := 45) rfl)) (by decide) rfl (lenOf pd6 rfl) at_268 rfl (m_makeUncertainDelta hw _ _ _ _) rfl rfl (by decide) (by decide) (by decide) (by decide)) ?_
    refine EndsE.st (b := (279, _, _, _, 8, 62)) (s_goto at_271 (by decide) (by decide)) ?_
    exact tC hw _ _ _ _ _ _ _ _ _ _ _ _ _ _ rfl (Or.inl ⟨by decide, by decide⟩)
theorem tB021 {l : Launch} {Z : State} {a0 : Array Value} (hw : ∀ d ∈ tables_1, d.before a0 Z = true) {ρ : oM} {vs ss : List Value} (x k mo u e mid s d ce : Int32) (G : Good vs ss 0 x [] false) (h1 : u = 0 → d = (Int32.ofNat 0)) (h2 : ¬ u = 0 → ce = (Int32.ofNat 0)) : EndsE l Z CK ρ "com/example/ontology_to_datalog/ontologytodatalog/datalog/RelationHasDeltaPinLaw" "law" code maxLocals room_1 ret (202, [.val (.int x), .val (.int k), .val (.int mo), .val (.int 0), .val (.int 2), .val (.int 1), .val (.int u), .val (.int e), .val (.ref 0), .val (.ref 1), .val (.ref 2), .val (.ref 3), .val (.ref 4), .val (.int 1), .val (.int mid), .unset, .unset], [], (.inr (.int, [.int x]) :: .inr (.int, [.int (x + 1)]) :: .inr (.int, [.int (x + 2)]) :: .inr (.int, [.int (x + 3)]) :: .inl (0, [.int 1, .ref 5, .int (Int32.ofNat 0), .ref 6, .ref 7, .int s, .int d, .int ce]) :: .inr (.int, vs) :: .inr (.int, ss) :: .inr (.object "com/example/ontology_to_datalog/ontologytodatalog/datalog/Relation$ColumnIndex", [.null]) :: []), 8, 62) (some (.int 1)) := by
  obtain ⟨vs1, ss1, G1, M1⟩ := gNew (l := l) (ρ := ρ) (s := s) (d := d) (ce := ce) hw (t0 := .inr (.int, [.int x])) (t1 := .inr (.int, [.int (x + 1)])) (t2 := .inr (.int, [.int (x + 2)])) (t3 := .inr (.int, [.int (x + 3)])) G (by decide) 2 (x + 2) rfl List.not_mem_nil (fun z => Bool.noConfusion z)
  obtain ⟨vs2, ss2, G2, M2⟩ := gNew (l := l) (ρ := ρ) (s := s) (d := d) (ce := ce) hw (t0 := .inr (.int, [.int x])) (t1 := .inr (.int, [.int (x + 1)])) (t2 := .inr (.int, [.int (x + 2)])) (t3 := .inr (.int, [.int (x + 3)])) G1 (by decide) 3 (x + 3) rfl (by simp only [List.mem_cons, List.not_mem_nil, or_false, not_or]; exact (ne_add (by decide))) (fun z => Bool.noConfusion z)
  obtain ⟨vs3, ss3, G3, M3⟩ := gNew (l := l) (ρ := ρ) (s := s) (d := d) (ce := ce) hw (t0 := .inr (.int, [.int x])) (t1 := .inr (.int, [.int (x + 1)])) (t2 := .inr (.int, [.int (x + 2)])) (t3 := .inr (.int, [.int (x + 3)])) G2 (by decide) 0 (x) rfl (by simp only [List.mem_cons, List.not_mem_nil, or_false, not_or]; exact ⟨(fun z => ne_add0 (x := x) (a := 3) (by decide) z.symm), (fun z => ne_add0 (x := x) (a := 2) (by decide) z.symm)⟩) (fun z => Bool.noConfusion z)
  refine EndsE.st (b := (204, _, _, _, 8, 62)) (s_iload at_202 rfl) ?_
  refine EndsE.st (b := (207, _, _, _, 8, 62)) (s_if_le_f at_204 (by decide)) ?_
  refine EndsE.st (b := (209, _, _, _, 8, 62)) (s_aload at_207 rfl rfl) ?_
  refine EndsE.st (b := (211, _, _, _, 8, 62)) (s_aload at_209 rfl rfl) ?_
  refine EndsE.st (b := (214, _, [_], _, 8, 62)) (s_callV (W := 0) (cid := 0) (hw _ (List.mem_of_getElem? (i := 47) rfl)) (hw _ (List.mem_of_getElem? (i := 49) rfl)) (hw _ (List.mem_of_getElem? (i := 3) rfl)) (hw _ (List.mem_of_getElem? (i := 51) rfl)) (hw _ (List.mem_of_getElem? (i := 48) rfl)) (hw _ (List.mem_of_getElem? (i := 50) rfl)) (by decide) rfl (lenOf pd7 rfl) at_211 rfl (M1) rfl rfl (by decide) (by decide) (by decide) (by decide)) ?_
  refine EndsE.st (b := (215, _, _, _, 8, 62)) (s_pop at_214 rfl) ?_
  refine EndsE.st (b := (217, _, _, _, 8, 62)) (s_iload at_215 rfl) ?_
  refine EndsE.st (b := (218, _, _, _, 8, 62)) (s_iconst (z := 1) at_217 rfl) ?_
  refine EndsE.st (b := (221, _, _, _, 8, 62)) (s_icmp_le_f at_218 (by decide)) ?_
  refine EndsE.st (b := (223, _, _, _, 8, 62)) (s_aload at_221 rfl rfl) ?_
  refine EndsE.st (b := (225, _, _, _, 8, 62)) (s_aload at_223 rfl rfl) ?_
  refine EndsE.st (b := (228, _, [_], _, 8, 62)) (s_callV (W := 0) (cid := 0) (hw _ (List.mem_of_getElem? (i := 47) rfl)) (hw _ (List.mem_of_getElem? (i := 49) rfl)) (hw _ (List.mem_of_getElem? (i := 3) rfl)) (hw _ (List.mem_of_getElem? (i := 51) rfl)) (hw _ (List.mem_of_getElem? (i := 48) rfl)) (hw _ (List.mem_of_getElem? (i := 50) rfl)) (by decide) rfl (lenOf pd7 rfl) at_225 rfl (M2) rfl rfl (by decide) (by decide) (by decide) (by decide)) ?_
  refine EndsE.st (b := (229, _, _, _, 8, 62)) (s_pop at_228 rfl) ?_
  refine EndsE.st (b := (231, _, _, _, 8, 62)) (s_iload at_229 rfl) ?_
  refine EndsE.st (b := (234, _, _, _, 8, 62)) (s_if_eq_f at_231 (by decide)) ?_
  refine EndsE.st (b := (236, _, _, _, 8, 62)) (s_aload at_234 rfl rfl) ?_
  refine EndsE.st (b := (238, _, _, _, 8, 62)) (s_aload at_236 rfl rfl) ?_
  refine EndsE.st (b := (241, _, [_], _, 8, 62)) (s_callV (W := 0) (cid := 0) (hw _ (List.mem_of_getElem? (i := 47) rfl)) (hw _ (List.mem_of_getElem? (i := 49) rfl)) (hw _ (List.mem_of_getElem? (i := 3) rfl)) (hw _ (List.mem_of_getElem? (i := 51) rfl)) (hw _ (List.mem_of_getElem? (i := 48) rfl)) (hw _ (List.mem_of_getElem? (i := 50) rfl)) (by decide) rfl (lenOf pd7 rfl) at_238 rfl (M3) rfl rfl (by decide) (by decide) (by decide) (by decide)) ?_
  refine EndsE.st (b := (242, _, _, _, 8, 62)) (s_pop at_241 rfl) ?_
  refine EndsE.st (b := (244, _, _, _, 8, 62)) (s_iload at_242 rfl) ?_
  refine EndsE.st (b := (246, _, _, _, 8, 62)) (s_iload at_244 rfl) ?_
  refine EndsE.st (b := (249, _, _, _, 8, 62)) (s_if_eq_f at_246 (by decide)) ?_
  refine EndsE.st (b := (250, _, _, _, 8, 62)) (s_iloadN at_249 rfl) ?_
  refine EndsE.st (b := (253, _, _, _, 8, 62)) (s_if_ne_f at_250 rfl) ?_
  refine EndsE.st (b := (254, _, _, _, 8, 62)) (s_iconst (z := 1) at_253 rfl) ?_
  refine EndsE.st (b := (258, _, _, _, 8, 62)) (s_goto at_254 (by decide) (by decide)) ?_
  refine EndsE.st (b := (259, _, _, _, 8, 62)) (s_iadd at_258) ?_
  refine EndsE.st (b := (261, [_, _, _, _, _, _, _, _, _, _, _, _, _, _, _, _, _], _, _, 8, 62)) (s_istore at_259 rfl) ?_
  refine EndsE.st (b := (263, _, _, _, 8, 62)) (s_iload at_261 rfl) ?_
  refine EndsE.if_eq (pc' := 274) at_263 (by decide) (by decide) (fun h => ?_) (fun h => ?_)
  · skip
    rw [h1 h]
    refine EndsE.st (b := (276, _, _, _, 8, 62)) (s_aload at_274 rfl rfl) ?_
    refine EndsE.st (b := (279, _, [], _, 8, 62)) (s_callV (W := 0) (cid := 0) (hw _ (List.mem_of_getElem? (i := 71) rfl)) (hw _ (List.mem_of_getElem? (i := 73) rfl)) (hw _ (List.mem_of_getElem? (i := 3) rfl)) (hw _ (List.mem_of_getElem? (i := 75) rfl)) (hw _ (List.mem_of_getElem? (i := 72) rfl)) (hw _ (List.mem_of_getElem? (i := 74) rfl)) (by decide) rfl (lenOf pd12 rfl) at_276 rfl (m_advance hw _ _ _ _) rfl rfl (by decide) (by decide) (by decide) (by decide)) ?_
    exact tC hw _ _ _ _ _ _ _ _ _ _ _ _ _ _ rfl (Or.inl ⟨by decide, by decide⟩)
  · skip
    rw [h2 h]
    refine EndsE.st (b := (268, _, _, _, 8, 62)) (s_aload at_266 rfl rfl) ?_
    refine EndsE.st (b := (271, _, [], _, 8, 62)) (s_callV (W := 0) (cid := 0) (hw _ (List.mem_of_getElem? (i := 42) rfl)) (hw _ (List.mem_of_getElem? (i := 44) rfl)) (hw _ (List.mem_of_getElem? (i := 3) rfl)) (hw _ (List.mem_of_getElem? (i := 46) rfl)) (hw _ (List.mem_of_getElem? (i := 43) rfl)) (hw _ (List.mem_of_getElem? (i := 45) rfl)) (by decide) rfl (lenOf pd6 rfl) at_268 rfl (m_makeUncertainDelta hw _ _ _ _) rfl rfl (by decide) (by decide) (by decide) (by decide)) ?_
    refine EndsE.st (b := (279, _, _, _, 8, 62)) (s_goto at_271 (by decide) (by decide)) ?_
    exact tC hw _ _ _ _ _ _ _ _ _ _ _ _ _ _ rfl (Or.inl ⟨by decide, by decide⟩)
theorem tB100 {l : Launch} {Z : State} {a0 : Array Value} (hw : ∀ d ∈ tables_1, d.before a0 Z = true) {ρ : oM} {vs ss : List Value} (x k mo u e mid s d ce : Int32) (G : Good vs ss 1 x [x] true) (h1 : u = 0 → d = (Int32.ofNat 1)) (h2 : ¬ u = 0 → ce = (Int32.ofNat 1)) : EndsE l Z CK ρ "com/example/ontology_to_datalog/ontologytodatalog/datalog/RelationHasDeltaPinLaw" "law" code maxLocals room_1 ret (202, [.val (.int x), .val (.int k), .val (.int mo), .val (.int 1), .val (.int 0), .val (.int 0), .val (.int u), .val (.int e), .val (.ref 0), .val (.ref 1), .val (.ref 2), .val (.ref 3), .val (.ref 4), .val (.int 1), .val (.int mid), .unset, .unset], [], (.inr (.int, [.int x]) :: .inr (.int, [.int (x + 1)]) :: .inr (.int, [.int (x + 2)]) :: .inr (.int, [.int (x + 3)]) :: .inl (0, [.int 1, .ref 5, .int (Int32.ofNat 1), .ref 6, .ref 7, .int s, .int d, .int ce]) :: .inr (.int, vs) :: .inr (.int, ss) :: .inr (.object "com/example/ontology_to_datalog/ontologytodatalog/datalog/Relation$ColumnIndex", [.null]) :: []), 8, 62) (some (.int 1)) := by
  refine EndsE.st (b := (204, _, _, _, 8, 62)) (s_iload at_202 rfl) ?_
  refine EndsE.st (b := (215, _, _, _, 8, 62)) (s_if_le_t at_204 (by decide) (by decide) (by decide)) ?_
  refine EndsE.st (b := (217, _, _, _, 8, 62)) (s_iload at_215 rfl) ?_
  refine EndsE.st (b := (218, _, _, _, 8, 62)) (s_iconst (z := 1) at_217 rfl) ?_
  refine EndsE.st (b := (229, _, _, _, 8, 62)) (s_icmp_le_t at_218 (by decide) (by decide) (by decide)) ?_
  refine EndsE.st (b := (231, _, _, _, 8, 62)) (s_iload at_229 rfl) ?_
  refine EndsE.st (b := (242, _, _, _, 8, 62)) (s_if_eq_t at_231 (by decide) (by decide) (by decide)) ?_
  refine EndsE.st (b := (244, _, _, _, 8, 62)) (s_iload at_242 rfl) ?_
  refine EndsE.st (b := (246, _, _, _, 8, 62)) (s_iload at_244 rfl) ?_
  refine EndsE.st (b := (257, _, _, _, 8, 62)) (s_if_eq_t at_246 (by decide) (by decide) (by decide)) ?_
  refine EndsE.st (b := (258, _, _, _, 8, 62)) (s_iconst (z := 0) at_257 rfl) ?_
  refine EndsE.st (b := (259, _, _, _, 8, 62)) (s_iadd at_258) ?_
  refine EndsE.st (b := (261, [_, _, _, _, _, _, _, _, _, _, _, _, _, _, _, _, _], _, _, 8, 62)) (s_istore at_259 rfl) ?_
  refine EndsE.st (b := (263, _, _, _, 8, 62)) (s_iload at_261 rfl) ?_
  refine EndsE.if_eq (pc' := 274) at_263 (by decide) (by decide) (fun h => ?_) (fun h => ?_)
  · skip
    rw [h1 h]
    refine EndsE.st (b := (276, _, _, _, 8, 62)) (s_aload at_274 rfl rfl) ?_
    refine EndsE.st (b := (279, _, [], _, 8, 62)) (s_callV (W := 0) (cid := 0) (hw _ (List.mem_of_getElem? (i := 71) rfl)) (hw _ (List.mem_of_getElem? (i := 73) rfl)) (hw _ (List.mem_of_getElem? (i := 3) rfl)) (hw _ (List.mem_of_getElem? (i := 75) rfl)) (hw _ (List.mem_of_getElem? (i := 72) rfl)) (hw _ (List.mem_of_getElem? (i := 74) rfl)) (by decide) rfl (lenOf pd12 rfl) at_276 rfl (m_advance hw _ _ _ _) rfl rfl (by decide) (by decide) (by decide) (by decide)) ?_
    exact tC hw _ _ _ _ _ _ _ _ _ _ _ _ _ _ rfl (Or.inr ⟨by decide, by decide⟩)
  · skip
    rw [h2 h]
    refine EndsE.st (b := (268, _, _, _, 8, 62)) (s_aload at_266 rfl rfl) ?_
    refine EndsE.st (b := (271, _, [], _, 8, 62)) (s_callV (W := 0) (cid := 0) (hw _ (List.mem_of_getElem? (i := 42) rfl)) (hw _ (List.mem_of_getElem? (i := 44) rfl)) (hw _ (List.mem_of_getElem? (i := 3) rfl)) (hw _ (List.mem_of_getElem? (i := 46) rfl)) (hw _ (List.mem_of_getElem? (i := 43) rfl)) (hw _ (List.mem_of_getElem? (i := 45) rfl)) (by decide) rfl (lenOf pd6 rfl) at_268 rfl (m_makeUncertainDelta hw _ _ _ _) rfl rfl (by decide) (by decide) (by decide) (by decide)) ?_
    refine EndsE.st (b := (279, _, _, _, 8, 62)) (s_goto at_271 (by decide) (by decide)) ?_
    exact tC hw _ _ _ _ _ _ _ _ _ _ _ _ _ _ rfl (Or.inr ⟨by decide, by decide⟩)
theorem tB101 {l : Launch} {Z : State} {a0 : Array Value} (hw : ∀ d ∈ tables_1, d.before a0 Z = true) {ρ : oM} {vs ss : List Value} (x k mo u e mid s d ce : Int32) (G : Good vs ss 1 x [x] true) (h1 : u = 0 → d = (Int32.ofNat 1)) (h2 : ¬ u = 0 → ce = (Int32.ofNat 1)) : EndsE l Z CK ρ "com/example/ontology_to_datalog/ontologytodatalog/datalog/RelationHasDeltaPinLaw" "law" code maxLocals room_1 ret (202, [.val (.int x), .val (.int k), .val (.int mo), .val (.int 1), .val (.int 0), .val (.int 1), .val (.int u), .val (.int e), .val (.ref 0), .val (.ref 1), .val (.ref 2), .val (.ref 3), .val (.ref 4), .val (.int 1), .val (.int mid), .unset, .unset], [], (.inr (.int, [.int x]) :: .inr (.int, [.int (x + 1)]) :: .inr (.int, [.int (x + 2)]) :: .inr (.int, [.int (x + 3)]) :: .inl (0, [.int 1, .ref 5, .int (Int32.ofNat 1), .ref 6, .ref 7, .int s, .int d, .int ce]) :: .inr (.int, vs) :: .inr (.int, ss) :: .inr (.object "com/example/ontology_to_datalog/ontologytodatalog/datalog/Relation$ColumnIndex", [.null]) :: []), 8, 62) (some (.int 1)) := by
  have Md := gDup (l := l) (ρ := ρ) (s := s) (d := d) (ce := ce) hw (t0 := .inr (.int, [.int x])) (t1 := .inr (.int, [.int (x + 1)])) (t2 := .inr (.int, [.int (x + 2)])) (t3 := .inr (.int, [.int (x + 3)])) G (by decide) 0 x rfl rfl
  refine EndsE.st (b := (204, _, _, _, 8, 62)) (s_iload at_202 rfl) ?_
  refine EndsE.st (b := (215, _, _, _, 8, 62)) (s_if_le_t at_204 (by decide) (by decide) (by decide)) ?_
  refine EndsE.st (b := (217, _, _, _, 8, 62)) (s_iload at_215 rfl) ?_
  refine EndsE.st (b := (218, _, _, _, 8, 62)) (s_iconst (z := 1) at_217 rfl) ?_
  refine EndsE.st (b := (229, _, _, _, 8, 62)) (s_icmp_le_t at_218 (by decide) (by decide) (by decide)) ?_
  refine EndsE.st (b := (231, _, _, _, 8, 62)) (s_iload at_229 rfl) ?_
  refine EndsE.st (b := (234, _, _, _, 8, 62)) (s_if_eq_f at_231 (by decide)) ?_
  refine EndsE.st (b := (236, _, _, _, 8, 62)) (s_aload at_234 rfl rfl) ?_
  refine EndsE.st (b := (238, _, _, _, 8, 62)) (s_aload at_236 rfl rfl) ?_
  refine EndsE.st (b := (241, _, [_], _, 8, 62)) (s_callV (W := 0) (cid := 0) (hw _ (List.mem_of_getElem? (i := 47) rfl)) (hw _ (List.mem_of_getElem? (i := 49) rfl)) (hw _ (List.mem_of_getElem? (i := 3) rfl)) (hw _ (List.mem_of_getElem? (i := 51) rfl)) (hw _ (List.mem_of_getElem? (i := 48) rfl)) (hw _ (List.mem_of_getElem? (i := 50) rfl)) (by decide) rfl (lenOf pd7 rfl) at_238 rfl (Md) rfl rfl (by decide) (by decide) (by decide) (by decide)) ?_
  refine EndsE.st (b := (242, _, _, _, 8, 62)) (s_pop at_241 rfl) ?_
  refine EndsE.st (b := (244, _, _, _, 8, 62)) (s_iload at_242 rfl) ?_
  refine EndsE.st (b := (246, _, _, _, 8, 62)) (s_iload at_244 rfl) ?_
  refine EndsE.st (b := (249, _, _, _, 8, 62)) (s_if_eq_f at_246 (by decide)) ?_
  refine EndsE.st (b := (250, _, _, _, 8, 62)) (s_iloadN at_249 rfl) ?_
  refine EndsE.st (b := (257, _, _, _, 8, 62)) (s_if_ne_t at_250 (by decide) (by decide) (by decide)) ?_
  refine EndsE.st (b := (258, _, _, _, 8, 62)) (s_iconst (z := 0) at_257 rfl) ?_
  refine EndsE.st (b := (259, _, _, _, 8, 62)) (s_iadd at_258) ?_
  refine EndsE.st (b := (261, [_, _, _, _, _, _, _, _, _, _, _, _, _, _, _, _, _], _, _, 8, 62)) (s_istore at_259 rfl) ?_
  refine EndsE.st (b := (263, _, _, _, 8, 62)) (s_iload at_261 rfl) ?_
  refine EndsE.if_eq (pc' := 274) at_263 (by decide) (by decide) (fun h => ?_) (fun h => ?_)
  · skip
    rw [h1 h]
    refine EndsE.st (b := (276, _, _, _, 8, 62)) (s_aload at_274 rfl rfl) ?_
    refine EndsE.st (b := (279, _, [], _, 8, 62)) (s_callV (W := 0) (cid := 0) (hw _ (List.mem_of_getElem? (i := 71) rfl)) (hw _ (List.mem_of_getElem? (i := 73) rfl)) (hw _ (List.mem_of_getElem? (i := 3) rfl)) (hw _ (List.mem_of_getElem? (i := 75) rfl)) (hw _ (List.mem_of_getElem? (i := 72) rfl)) (hw _ (List.mem_of_getElem? (i := 74) rfl)) (by decide) rfl (lenOf pd12 rfl) at_276 rfl (m_advance hw _ _ _ _) rfl rfl (by decide) (by decide) (by decide) (by decide)) ?_
    exact tC hw _ _ _ _ _ _ _ _ _ _ _ _ _ _ rfl (Or.inr ⟨by decide, by decide⟩)
  · skip
    rw [h2 h]
    refine EndsE.st (b := (268, _, _, _, 8, 62)) (s_aload at_266 rfl rfl) ?_
    refine EndsE.st (b := (271, _, [], _, 8, 62)) (s_callV (W := 0) (cid := 0) (hw _ (List.mem_of_getElem? (i := 42) rfl)) (hw _ (List.mem_of_getElem? (i := 44) rfl)) (hw _ (List.mem_of_getElem? (i := 3) rfl)) (hw _ (List.mem_of_getElem? (i := 46) rfl)) (hw _ (List.mem_of_getElem? (i := 43) rfl)) (hw _ (List.mem_of_getElem? (i := 45) rfl)) (by decide) rfl (lenOf pd6 rfl) at_268 rfl (m_makeUncertainDelta hw _ _ _ _) rfl rfl (by decide) (by decide) (by decide) (by decide)) ?_
    refine EndsE.st (b := (279, _, _, _, 8, 62)) (s_goto at_271 (by decide) (by decide)) ?_
    exact tC hw _ _ _ _ _ _ _ _ _ _ _ _ _ _ rfl (Or.inr ⟨by decide, by decide⟩)
theorem tB110 {l : Launch} {Z : State} {a0 : Array Value} (hw : ∀ d ∈ tables_1, d.before a0 Z = true) {ρ : oM} {vs ss : List Value} (x k mo u e mid s d ce : Int32) (G : Good vs ss 1 x [x] true) (h1 : u = 0 → d = (Int32.ofNat 1)) (h2 : ¬ u = 0 → ce = (Int32.ofNat 1)) : EndsE l Z CK ρ "com/example/ontology_to_datalog/ontologytodatalog/datalog/RelationHasDeltaPinLaw" "law" code maxLocals room_1 ret (202, [.val (.int x), .val (.int k), .val (.int mo), .val (.int 1), .val (.int 1), .val (.int 0), .val (.int u), .val (.int e), .val (.ref 0), .val (.ref 1), .val (.ref 2), .val (.ref 3), .val (.ref 4), .val (.int 1), .val (.int mid), .unset, .unset], [], (.inr (.int, [.int x]) :: .inr (.int, [.int (x + 1)]) :: .inr (.int, [.int (x + 2)]) :: .inr (.int, [.int (x + 3)]) :: .inl (0, [.int 1, .ref 5, .int (Int32.ofNat 1), .ref 6, .ref 7, .int s, .int d, .int ce]) :: .inr (.int, vs) :: .inr (.int, ss) :: .inr (.object "com/example/ontology_to_datalog/ontologytodatalog/datalog/Relation$ColumnIndex", [.null]) :: []), 8, 62) (some (.int 1)) := by
  obtain ⟨vs2, ss2, G2, M2⟩ := gNew (l := l) (ρ := ρ) (s := s) (d := d) (ce := ce) hw (t0 := .inr (.int, [.int x])) (t1 := .inr (.int, [.int (x + 1)])) (t2 := .inr (.int, [.int (x + 2)])) (t3 := .inr (.int, [.int (x + 3)])) G (by decide) 2 (x + 2) rfl (by simp only [List.mem_cons, List.not_mem_nil, or_false, not_or]; exact (ne_add0 (by decide))) (fun z => by decide)
  refine EndsE.st (b := (204, _, _, _, 8, 62)) (s_iload at_202 rfl) ?_
  refine EndsE.st (b := (207, _, _, _, 8, 62)) (s_if_le_f at_204 (by decide)) ?_
  refine EndsE.st (b := (209, _, _, _, 8, 62)) (s_aload at_207 rfl rfl) ?_
  refine EndsE.st (b := (211, _, _, _, 8, 62)) (s_aload at_209 rfl rfl) ?_
  refine EndsE.st (b := (214, _, [_], _, 8, 62)) (s_callV (W := 0) (cid := 0) (hw _ (List.mem_of_getElem? (i := 47) rfl)) (hw _ (List.mem_of_getElem? (i := 49) rfl)) (hw _ (List.mem_of_getElem? (i := 3) rfl)) (hw _ (List.mem_of_getElem? (i := 51) rfl)) (hw _ (List.mem_of_getElem? (i := 48) rfl)) (hw _ (List.mem_of_getElem? (i := 50) rfl)) (by decide) rfl (lenOf pd7 rfl) at_211 rfl (M2) rfl rfl (by decide) (by decide) (by decide) (by decide)) ?_
  refine EndsE.st (b := (215, _, _, _, 8, 62)) (s_pop at_214 rfl) ?_
  refine EndsE.st (b := (217, _, _, _, 8, 62)) (s_iload at_215 rfl) ?_
  refine EndsE.st (b := (218, _, _, _, 8, 62)) (s_iconst (z := 1) at_217 rfl) ?_
  refine EndsE.st (b := (229, _, _, _, 8, 62)) (s_icmp_le_t at_218 (by decide) (by decide) (by decide)) ?_
  refine EndsE.st (b := (231, _, _, _, 8, 62)) (s_iload at_229 rfl) ?_
  refine EndsE.st (b := (242, _, _, _, 8, 62)) (s_if_eq_t at_231 (by decide) (by decide) (by decide)) ?_
  refine EndsE.st (b := (244, _, _, _, 8, 62)) (s_iload at_242 rfl) ?_
  refine EndsE.st (b := (246, _, _, _, 8, 62)) (s_iload at_244 rfl) ?_
  refine EndsE.st (b := (257, _, _, _, 8, 62)) (s_if_eq_t at_246 (by decide) (by decide) (by decide)) ?_
  refine EndsE.st (b := (258, _, _, _, 8, 62)) (s_iconst (z := 0) at_257 rfl) ?_
  refine EndsE.st (b := (259, _, _, _, 8, 62)) (s_iadd at_258) ?_
  refine EndsE.st (b := (261, [_, _, _, _, _, _, _, _, _, _, _, _, _, _, _, _, _], _, _, 8, 62)) (s_istore at_259 rfl) ?_
  refine EndsE.st (b := (263, _, _, _, 8, 62)) (s_iload at_261 rfl) ?_
  refine EndsE.if_eq (pc' := 274) at_263 (by decide) (by decide) (fun h => ?_) (fun h => ?_)
  · skip
    rw [h1 h]
    refine EndsE.st (b := (276, _, _, _, 8, 62)) (s_aload at_274 rfl rfl) ?_
    refine EndsE.st (b := (279, _, [], _, 8, 62)) (s_callV (W := 0) (cid := 0) (hw _ (List.mem_of_getElem? (i := 71) rfl)) (hw _ (List.mem_of_getElem? (i := 73) rfl)) (hw _ (List.mem_of_getElem? (i := 3) rfl)) (hw _ (List.mem_of_getElem? (i := 75) rfl)) (hw _ (List.mem_of_getElem? (i := 72) rfl)) (hw _ (List.mem_of_getElem? (i := 74) rfl)) (by decide) rfl (lenOf pd12 rfl) at_276 rfl (m_advance hw _ _ _ _) rfl rfl (by decide) (by decide) (by decide) (by decide)) ?_
    exact tC hw _ _ _ _ _ _ _ _ _ _ _ _ _ _ rfl (Or.inl ⟨by decide, by decide⟩)
  · skip
    rw [h2 h]
    refine EndsE.st (b := (268, _, _, _, 8, 62)) (s_aload at_266 rfl rfl) ?_
    refine EndsE.st (b := (271, _, [], _, 8, 62)) (s_callV (W := 0) (cid := 0) (hw _ (List.mem_of_getElem? (i := 42) rfl)) (hw _ (List.mem_of_getElem? (i := 44) rfl)) (hw _ (List.mem_of_getElem? (i := 3) rfl)) (hw _ (List.mem_of_getElem? (i := 46) rfl)) (hw _ (List.mem_of_getElem? (i := 43) rfl)) (hw _ (List.mem_of_getElem? (i := 45) rfl)) (by decide) rfl (lenOf pd6 rfl) at_268 rfl (m_makeUncertainDelta hw _ _ _ _) rfl rfl (by decide) (by decide) (by decide) (by decide)) ?_
    refine EndsE.st (b := (279, _, _, _, 8, 62)) (s_goto at_271 (by decide) (by decide)) ?_
    exact tC hw _ _ _ _ _ _ _ _ _ _ _ _ _ _ rfl (Or.inl ⟨by decide, by decide⟩)
theorem tB111 {l : Launch} {Z : State} {a0 : Array Value} (hw : ∀ d ∈ tables_1, d.before a0 Z = true) {ρ : oM} {vs ss : List Value} (x k mo u e mid s d ce : Int32) (G : Good vs ss 1 x [x] true) (h1 : u = 0 → d = (Int32.ofNat 1)) (h2 : ¬ u = 0 → ce = (Int32.ofNat 1)) : EndsE l Z CK ρ "com/example/ontology_to_datalog/ontologytodatalog/datalog/RelationHasDeltaPinLaw" "law" code maxLocals room_1 ret (202, [.val (.int x), .val (.int k), .val (.int mo), .val (.int 1), .val (.int 1), .val (.int 1), .val (.int u), .val (.int e), .val (.ref 0), .val (.ref 1), .val (.ref 2), .val (.ref 3), .val (.ref 4), .val (.int 1), .val (.int mid), .unset, .unset], [], (.inr (.int, [.int x]) :: .inr (.int, [.int (x + 1)]) :: .inr (.int, [.int (x + 2)]) :: .inr (.int, [.int (x + 3)]) :: .inl (0, [.int 1, .ref 5, .int (Int32.ofNat 1), .ref 6, .ref 7, .int s, .int d, .int ce]) :: .inr (.int, vs) :: .inr (.int, ss) :: .inr (.object "com/example/ontology_to_datalog/ontologytodatalog/datalog/Relation$ColumnIndex", [.null]) :: []), 8, 62) (some (.int 1)) := by
  obtain ⟨vs2, ss2, G2, M2⟩ := gNew (l := l) (ρ := ρ) (s := s) (d := d) (ce := ce) hw (t0 := .inr (.int, [.int x])) (t1 := .inr (.int, [.int (x + 1)])) (t2 := .inr (.int, [.int (x + 2)])) (t3 := .inr (.int, [.int (x + 3)])) G (by decide) 2 (x + 2) rfl (by simp only [List.mem_cons, List.not_mem_nil, or_false, not_or]; exact (ne_add0 (by decide))) (fun z => by decide)
  have Md := gDup (l := l) (ρ := ρ) (s := s) (d := d) (ce := ce) hw (t0 := .inr (.int, [.int x])) (t1 := .inr (.int, [.int (x + 1)])) (t2 := .inr (.int, [.int (x + 2)])) (t3 := .inr (.int, [.int (x + 3)])) G2 (by decide) 0 x rfl rfl
  refine EndsE.st (b := (204, _, _, _, 8, 62)) (s_iload at_202 rfl) ?_
  refine EndsE.st (b := (207, _, _, _, 8, 62)) (s_if_le_f at_204 (by decide)) ?_
  refine EndsE.st (b := (209, _, _, _, 8, 62)) (s_aload at_207 rfl rfl) ?_
  refine EndsE.st (b := (211, _, _, _, 8, 62)) (s_aload at_209 rfl rfl) ?_
  refine EndsE.st (b := (214, _, [_], _, 8, 62)) (s_callV (W := 0) (cid := 0) (hw _ (List.mem_of_getElem? (i := 47) rfl)) (hw _ (List.mem_of_getElem? (i := 49) rfl)) (hw _ (List.mem_of_getElem? (i := 3) rfl)) (hw _ (List.mem_of_getElem? (i := 51) rfl)) (hw _ (List.mem_of_getElem? (i := 48) rfl)) (hw _ (List.mem_of_getElem? (i := 50) rfl)) (by decide) rfl (lenOf pd7 rfl) at_211 rfl (M2) rfl rfl (by decide) (by decide) (by decide) (by decide)) ?_
  refine EndsE.st (b := (215, _, _, _, 8, 62)) (s_pop at_214 rfl) ?_
  refine EndsE.st (b := (217, _, _, _, 8, 62)) (s_iload at_215 rfl) ?_
  refine EndsE.st (b := (218, _, _, _, 8, 62)) (s_iconst (z := 1) at_217 rfl) ?_
  refine EndsE.st (b := (229, _, _, _, 8, 62)) (s_icmp_le_t at_218 (by decide) (by decide) (by decide)) ?_
  refine EndsE.st (b := (231, _, _, _, 8, 62)) (s_iload at_229 rfl) ?_
  refine EndsE.st (b := (234, _, _, _, 8, 62)) (s_if_eq_f at_231 (by decide)) ?_
  refine EndsE.st (b := (236, _, _, _, 8, 62)) (s_aload at_234 rfl rfl) ?_
  refine EndsE.st (b := (238, _, _, _, 8, 62)) (s_aload at_236 rfl rfl) ?_
  refine EndsE.st (b := (241, _, [_], _, 8, 62)) (s_callV (W := 0) (cid := 0) (hw _ (List.mem_of_getElem? (i := 47) rfl)) (hw _ (List.mem_of_getElem? (i := 49) rfl)) (hw _ (List.mem_of_getElem? (i := 3) rfl)) (hw _ (List.mem_of_getElem? (i := 51) rfl)) (hw _ (List.mem_of_getElem? (i := 48) rfl)) (hw _ (List.mem_of_getElem? (i := 50) rfl)) (by decide) rfl (lenOf pd7 rfl) at_238 rfl (Md) rfl rfl (by decide) (by decide) (by decide) (by decide)) ?_
  refine EndsE.st (b := (242, _, _, _, 8, 62)) (s_pop at_241 rfl) ?_
  refine EndsE.st (b := (244, _, _, _, 8, 62)) (s_iload at_242 rfl) ?_
  refine EndsE.st (b := (246, _, _, _, 8, 62)) (s_iload at_244 rfl) ?_
  refine EndsE.st (b := (249, _, _, _, 8, 62)) (s_if_eq_f at_246 (by decide)) ?_
  refine EndsE.st (b := (250, _, _, _, 8, 62)) (s_iloadN at_249 rfl) ?_
  refine EndsE.st (b := (257, _, _, _, 8, 62)) (s_if_ne_t at_250 (by decide) (by decide) (by decide)) ?_
  refine EndsE.st (b := (258, _, _, _, 8, 62)) (s_iconst (z := 0) at_257 rfl) ?_
  refine EndsE.st (b := (259, _, _, _, 8, 62)) (s_iadd at_258) ?_
  refine EndsE.st (b := (261, [_, _, _, _, _, _, _, _, _, _, _, _, _, _, _, _, _], _, _, 8, 62)) (s_istore at_259 rfl) ?_
  refine EndsE.st (b := (263, _, _, _, 8, 62)) (s_iload at_261 rfl) ?_
  refine EndsE.if_eq (pc' := 274) at_263 (by decide) (by decide) (fun h => ?_) (fun h => ?_)
  · skip
    rw [h1 h]
    refine EndsE.st (b := (276, _, _, _, 8, 62)) (s_aload at_274 rfl rfl) ?_
    refine EndsE.st (b := (279, _, [], _, 8, 62)) (s_callV (W := 0) (cid := 0) (hw _ (List.mem_of_getElem? (i := 71) rfl)) (hw _ (List.mem_of_getElem? (i := 73) rfl)) (hw _ (List.mem_of_getElem? (i := 3) rfl)) (hw _ (List.mem_of_getElem? (i := 75) rfl)) (hw _ (List.mem_of_getElem? (i := 72) rfl)) (hw _ (List.mem_of_getElem? (i := 74) rfl)) (by decide) rfl (lenOf pd12 rfl) at_276 rfl (m_advance hw _ _ _ _) rfl rfl (by decide) (by decide) (by decide) (by decide)) ?_
    exact tC hw _ _ _ _ _ _ _ _ _ _ _ _ _ _ rfl (Or.inl ⟨by decide, by decide⟩)
  · skip
    rw [h2 h]
    refine EndsE.st (b := (268, _, _, _, 8, 62)) (s_aload at_266 rfl rfl) ?_
    refine EndsE.st (b := (271, _, [], _, 8, 62)) (s_callV (W := 0) (cid := 0) (hw _ (List.mem_of_getElem? (i := 42) rfl)) (hw _ (List.mem_of_getElem? (i := 44) rfl)) (hw _ (List.mem_of_getElem? (i := 3) rfl)) (hw _ (List.mem_of_getElem? (i := 46) rfl)) (hw _ (List.mem_of_getElem? (i := 43) rfl)) (hw _ (List.mem_of_getElem? (i := 45) rfl)) (by decide) rfl (lenOf pd6 rfl) at_268 rfl (m_makeUncertainDelta hw _ _ _ _) rfl rfl (by decide) (by decide) (by decide) (by decide)) ?_
    refine EndsE.st (b := (279, _, _, _, 8, 62)) (s_goto at_271 (by decide) (by decide)) ?_
    exact tC hw _ _ _ _ _ _ _ _ _ _ _ _ _ _ rfl (Or.inl ⟨by decide, by decide⟩)
theorem tB120 {l : Launch} {Z : State} {a0 : Array Value} (hw : ∀ d ∈ tables_1, d.before a0 Z = true) {ρ : oM} {vs ss : List Value} (x k mo u e mid s d ce : Int32) (G : Good vs ss 1 x [x] true) (h1 : u = 0 → d = (Int32.ofNat 1)) (h2 : ¬ u = 0 → ce = (Int32.ofNat 1)) : EndsE l Z CK ρ "com/example/ontology_to_datalog/ontologytodatalog/datalog/RelationHasDeltaPinLaw" "law" code maxLocals room_1 ret (202, [.val (.int x), .val (.int k), .val (.int mo), .val (.int 1), .val (.int 2), .val (.int 0), .val (.int u), .val (.int e), .val (.ref 0), .val (.ref 1), .val (.ref 2), .val (.ref 3), .val (.ref 4), .val (.int 1), .val (.int mid), .unset, .unset], [], (.inr (.int, [.int x]) :: .inr (.int, [.int (x + 1)]) :: .inr (.int, [.int (x + 2)]) :: .inr (.int, [.int (x + 3)]) :: .inl (0, [.int 1, .ref 5, .int (Int32.ofNat 1), .ref 6, .ref 7, .int s, .int d, .int ce]) :: .inr (.int, vs) :: .inr (.int, ss) :: .inr (.object "com/example/ontology_to_datalog/ontologytodatalog/datalog/Relation$ColumnIndex", [.null]) :: []), 8, 62) (some (.int 1)) := by
  obtain ⟨vs2, ss2, G2, M2⟩ := gNew (l := l) (ρ := ρ) (s := s) (d := d) (ce := ce) hw (t0 := .inr (.int, [.int x])) (t1 := .inr (.int, [.int (x + 1)])) (t2 := .inr (.int, [.int (x + 2)])) (t3 := .inr (.int, [.int (x + 3)])) G (by decide) 2 (x + 2) rfl (by simp only [List.mem_cons, List.not_mem_nil, or_false, not_or]; exact (ne_add0 (by decide))) (fun z => by decide)
  obtain ⟨vs3, ss3, G3, M3⟩ := gNew (l := l) (ρ := ρ) (s := s) (d := d) (ce := ce) hw (t0 := .inr (.int, [.int x])) (t1 := .inr (.int, [.int (x + 1)])) (t2 := .inr (.int, [.int (x + 2)])) (t3 := .inr (.int, [.int (x + 3)])) G2 (by decide) 3 (x + 3) rfl (by simp only [List.mem_cons, List.not_mem_nil, or_false, not_or]; exact ⟨(ne_add (by decide)), (ne_add0 (by decide))⟩) (fun z => by decide)
  refine EndsE.st (b := (204, _, _, _, 8, 62)) (s_iload at_202 rfl) ?_
  refine EndsE.st (b := (207, _, _, _, 8, 62)) (s_if_le_f at_204 (by decide)) ?_
  refine EndsE.st (b := (209, _, _, _, 8, 62)) (s_aload at_207 rfl rfl) ?_
  refine EndsE.st (b := (211, _, _, _, 8, 62)) (s_aload at_209 rfl rfl) ?_
  refine EndsE.st (b := (214, _, [_], _, 8, 62)) (s_callV (W := 0) (cid := 0) (hw _ (List.mem_of_getElem? (i := 47) rfl)) (hw _ (List.mem_of_getElem? (i := 49) rfl)) (hw _ (List.mem_of_getElem? (i := 3) rfl)) (hw _ (List.mem_of_getElem? (i := 51) rfl)) (hw _ (List.mem_of_getElem? (i := 48) rfl)) (hw _ (List.mem_of_getElem? (i := 50) rfl)) (by decide) rfl (lenOf pd7 rfl) at_211 rfl (M2) rfl rfl (by decide) (by decide) (by decide) (by decide)) ?_
  refine EndsE.st (b := (215, _, _, _, 8, 62)) (s_pop at_214 rfl) ?_
  refine EndsE.st (b := (217, _, _, _, 8, 62)) (s_iload at_215 rfl) ?_
  refine EndsE.st (b := (218, _, _, _, 8, 62)) (s_iconst (z := 1) at_217 rfl) ?_
  refine EndsE.st (b := (221, _, _, _, 8, 62)) (s_icmp_le_f at_218 (by decide)) ?_
  refine EndsE.st (b := (223, _, _, _, 8, 62)) (s_aload at_221 rfl rfl) ?_
  refine EndsE.st (b := (225, _, _, _, 8, 62)) (s_aload at_223 rfl rfl) ?_
  refine EndsE.st (b := (228, _, [_], _, 8, 62)) (s_callV (W := 0) (cid := 0) (hw _ (List.mem_of_getElem? (i := 47) rfl)) (hw _ (List.mem_of_getElem? (i := 49) rfl)) (hw _ (List.mem_of_getElem? (i := 3) rfl)) (hw _ (List.mem_of_getElem? (i := 51) rfl)) (hw _ (List.mem_of_getElem? (i := 48) rfl)) (hw _ (List.mem_of_getElem? (i := 50) rfl)) (by decide) rfl (lenOf pd7 rfl) at_225 rfl (M3) rfl rfl (by decide) (by decide) (by decide) (by decide)) ?_
  refine EndsE.st (b := (229, _, _, _, 8, 62)) (s_pop at_228 rfl) ?_
  refine EndsE.st (b := (231, _, _, _, 8, 62)) (s_iload at_229 rfl) ?_
  refine EndsE.st (b := (242, _, _, _, 8, 62)) (s_if_eq_t at_231 (by decide) (by decide) (by decide)) ?_
  refine EndsE.st (b := (244, _, _, _, 8, 62)) (s_iload at_242 rfl) ?_
  refine EndsE.st (b := (246, _, _, _, 8, 62)) (s_iload at_244 rfl) ?_
  refine EndsE.st (b := (257, _, _, _, 8, 62)) (s_if_eq_t at_246 (by decide) (by decide) (by decide)) ?_
  refine EndsE.st (b := (258, _, _, _, 8, 62)) (s_iconst (z := 0) at_257 rfl) ?_
  refine EndsE.st (b := (259, _, _, _, 8, 62)) (s_iadd at_258) ?_
  refine EndsE.st (b := (261, [_, _, _, _, _, _, _, _, _, _, _, _, _, _, _, _, _], _, _, 8, 62)) (s_istore at_259 rfl) ?_
  refine EndsE.st (b := (263, _, _, _, 8, 62)) (s_iload at_261 rfl) ?_
  refine EndsE.if_eq (pc' := 274) at_263 (by decide) (by decide) (fun h => ?_) (fun h => ?_)
  · skip
    rw [h1 h]
    refine EndsE.st (b := (276, _, _, _, 8, 62)) (s_aload at_274 rfl rfl) ?_
    refine EndsE.st (b := (279, _, [], _, 8, 62)) (s_callV (W := 0) (cid := 0) (hw _ (List.mem_of_getElem? (i := 71) rfl)) (hw _ (List.mem_of_getElem? (i := 73) rfl)) (hw _ (List.mem_of_getElem? (i := 3) rfl)) (hw _ (List.mem_of_getElem? (i := 75) rfl)) (hw _ (List.mem_of_getElem? (i := 72) rfl)) (hw _ (List.mem_of_getElem? (i := 74) rfl)) (by decide) rfl (lenOf pd12 rfl) at_276 rfl (m_advance hw _ _ _ _) rfl rfl (by decide) (by decide) (by decide) (by decide)) ?_
    exact tC hw _ _ _ _ _ _ _ _ _ _ _ _ _ _ rfl (Or.inl ⟨by decide, by decide⟩)
  · skip
    rw [h2 h]
    refine EndsE.st (b := (268, _, _, _, 8, 62)) (s_aload at_266 rfl rfl) ?_
    refine EndsE.st (b := (271, _, [], _, 8, 62)) (s_callV (W := 0) (cid := 0) (hw _ (List.mem_of_getElem? (i := 42) rfl)) (hw _ (List.mem_of_getElem? (i := 44) rfl)) (hw _ (List.mem_of_getElem? (i := 3) rfl)) (hw _ (List.mem_of_getElem? (i := 46) rfl)) (hw _ (List.mem_of_getElem? (i := 43) rfl)) (hw _ (List.mem_of_getElem? (i := 45) rfl)) (by decide) rfl (lenOf pd6 rfl) at_268 rfl (m_makeUncertainDelta hw _ _ _ _) rfl rfl (by decide) (by decide) (by decide) (by decide)) ?_
    refine EndsE.st (b := (279, _, _, _, 8, 62)) (s_goto at_271 (by decide) (by decide)) ?_
    exact tC hw _ _ _ _ _ _ _ _ _ _ _ _ _ _ rfl (Or.inl ⟨by decide, by decide⟩)
theorem tB121 {l : Launch} {Z : State} {a0 : Array Value} (hw : ∀ d ∈ tables_1, d.before a0 Z = true) {ρ : oM} {vs ss : List Value} (x k mo u e mid s d ce : Int32) (G : Good vs ss 1 x [x] true) (h1 : u = 0 → d = (Int32.ofNat 1)) (h2 : ¬ u = 0 → ce = (Int32.ofNat 1)) : EndsE l Z CK ρ "com/example/ontology_to_datalog/ontologytodatalog/datalog/RelationHasDeltaPinLaw" "law" code maxLocals room_1 ret (202, [.val (.int x), .val (.int k), .val (.int mo), .val (.int 1), .val (.int 2), .val (.int 1), .val (.int u), .val (.int e), .val (.ref 0), .val (.ref 1), .val (.ref 2), .val (.ref 3), .val (.ref 4), .val (.int 1), .val (.int mid), .unset, .unset], [], (.inr (.int, [.int x]) :: .inr (.int, [.int (x + 1)]) :: .inr (.int, [.int (x + 2)]) :: .inr (.int, [.int (x + 3)]) :: .inl (0, [.int 1, .ref 5, .int (Int32.ofNat 1), .ref 6, .ref 7, .int s, .int d, .int ce]) :: .inr (.int, vs) :: .inr (.int, ss) :: .inr (.object "com/example/ontology_to_datalog/ontologytodatalog/datalog/Relation$ColumnIndex", [.null]) :: []), 8, 62) (some (.int 1)) := by
  obtain ⟨vs2, ss2, G2, M2⟩ := gNew (l := l) (ρ := ρ) (s := s) (d := d) (ce := ce) hw (t0 := .inr (.int, [.int x])) (t1 := .inr (.int, [.int (x + 1)])) (t2 := .inr (.int, [.int (x + 2)])) (t3 := .inr (.int, [.int (x + 3)])) G (by decide) 2 (x + 2) rfl (by simp only [List.mem_cons, List.not_mem_nil, or_false, not_or]; exact (ne_add0 (by decide))) (fun z => by decide)
  obtain ⟨vs3, ss3, G3, M3⟩ := gNew (l := l) (ρ := ρ) (s := s) (d := d) (ce := ce) hw (t0 := .inr (.int, [.int x])) (t1 := .inr (.int, [.int (x + 1)])) (t2 := .inr (.int, [.int (x + 2)])) (t3 := .inr (.int, [.int (x + 3)])) G2 (by decide) 3 (x + 3) rfl (by simp only [List.mem_cons, List.not_mem_nil, or_false, not_or]; exact ⟨(ne_add (by decide)), (ne_add0 (by decide))⟩) (fun z => by decide)
  have Md := gDup (l := l) (ρ := ρ) (s := s) (d := d) (ce := ce) hw (t0 := .inr (.int, [.int x])) (t1 := .inr (.int, [.int (x + 1)])) (t2 := .inr (.int, [.int (x + 2)])) (t3 := .inr (.int, [.int (x + 3)])) G3 (by decide) 0 x rfl rfl
  refine EndsE.st (b := (204, _, _, _, 8, 62)) (s_iload at_202 rfl) ?_
  refine EndsE.st (b := (207, _, _, _, 8, 62)) (s_if_le_f at_204 (by decide)) ?_
  refine EndsE.st (b := (209, _, _, _, 8, 62)) (s_aload at_207 rfl rfl) ?_
  refine EndsE.st (b := (211, _, _, _, 8, 62)) (s_aload at_209 rfl rfl) ?_
  refine EndsE.st (b := (214, _, [_], _, 8, 62)) (s_callV (W := 0) (cid := 0) (hw _ (List.mem_of_getElem? (i := 47) rfl)) (hw _ (List.mem_of_getElem? (i := 49) rfl)) (hw _ (List.mem_of_getElem? (i := 3) rfl)) (hw _ (List.mem_of_getElem? (i := 51) rfl)) (hw _ (List.mem_of_getElem? (i := 48) rfl)) (hw _ (List.mem_of_getElem? (i := 50) rfl)) (by decide) rfl (lenOf pd7 rfl) at_211 rfl (M2) rfl rfl (by decide) (by decide) (by decide) (by decide)) ?_
  refine EndsE.st (b := (215, _, _, _, 8, 62)) (s_pop at_214 rfl) ?_
  refine EndsE.st (b := (217, _, _, _, 8, 62)) (s_iload at_215 rfl) ?_
  refine EndsE.st (b := (218, _, _, _, 8, 62)) (s_iconst (z := 1) at_217 rfl) ?_
  refine EndsE.st (b := (221, _, _, _, 8, 62)) (s_icmp_le_f at_218 (by decide)) ?_
  refine EndsE.st (b := (223, _, _, _, 8, 62)) (s_aload at_221 rfl rfl) ?_
  refine EndsE.st (b := (225, _, _, _, 8, 62)) (s_aload at_223 rfl rfl) ?_
  refine EndsE.st (b := (228, _, [_], _, 8, 62)) (s_callV (W := 0) (cid := 0) (hw _ (List.mem_of_getElem? (i := 47) rfl)) (hw _ (List.mem_of_getElem? (i := 49) rfl)) (hw _ (List.mem_of_getElem? (i := 3) rfl)) (hw _ (List.mem_of_getElem? (i := 51) rfl)) (hw _ (List.mem_of_getElem? (i := 48) rfl)) (hw _ (List.mem_of_getElem? (i := 50) rfl)) (by decide) rfl (lenOf pd7 rfl) at_225 rfl (M3) rfl rfl (by decide) (by decide) (by decide) (by decide)) ?_
  refine EndsE.st (b := (229, _, _, _, 8, 62)) (s_pop at_228 rfl) ?_
  refine EndsE.st (b := (231, _, _, _, 8, 62)) (s_iload at_229 rfl) ?_
  refine EndsE.st (b := (234, _, _, _, 8, 62)) (s_if_eq_f at_231 (by decide)) ?_
  refine EndsE.st (b := (236, _, _, _, 8, 62)) (s_aload at_234 rfl rfl) ?_
  refine EndsE.st (b := (238, _, _, _, 8, 62)) (s_aload at_236 rfl rfl) ?_
  refine EndsE.st (b := (241, _, [_], _, 8, 62)) (s_callV (W := 0) (cid := 0) (hw _ (List.mem_of_getElem? (i := 47) rfl)) (hw _ (List.mem_of_getElem? (i := 49) rfl)) (hw _ (List.mem_of_getElem? (i := 3) rfl)) (hw _ (List.mem_of_getElem? (i := 51) rfl)) (hw _ (List.mem_of_getElem? (i := 48) rfl)) (hw _ (List.mem_of_getElem? (i := 50) rfl)) (by decide) rfl (lenOf pd7 rfl) at_238 rfl (Md) rfl rfl (by decide) (by decide) (by decide) (by decide)) ?_
  refine EndsE.st (b := (242, _, _, _, 8, 62)) (s_pop at_241 rfl) ?_
  refine EndsE.st (b := (244, _, _, _, 8, 62)) (s_iload at_242 rfl) ?_
  refine EndsE.st (b := (246, _, _, _, 8, 62)) (s_iload at_244 rfl) ?_
  refine EndsE.st (b := (249, _, _, _, 8, 62)) (s_if_eq_f at_246 (by decide)) ?_
  refine EndsE.st (b := (250, _, _, _, 8, 62)) (s_iloadN at_249 rfl) ?_
  refine EndsE.st (b := (257, _, _, _, 8, 62)) (s_if_ne_t at_250 (by decide) (by decide) (by decide)) ?_
  refine EndsE.st (b := (258, _, _, _, 8, 62)) (s_iconst (z := 0) at_257 rfl) ?_
  refine EndsE.st (b := (259, _, _, _, 8, 62)) (s_iadd at_258) ?_
  refine EndsE.st (b := (261, [_, _, _, _, _, _, _, _, _, _, _, _, _, _, _, _, _], _, _, 8, 62)) (s_istore at_259 rfl) ?_
  refine EndsE.st (b := (263, _, _, _, 8, 62)) (s_iload at_261 rfl) ?_
  refine EndsE.if_eq (pc' := 274) at_263 (by decide) (by decide) (fun h => ?_) (fun h => ?_)
  · skip
    rw [h1 h]
    refine EndsE.st (b := (276, _, _, _, 8, 62)) (s_aload at_274 rfl rfl) ?_
    refine EndsE.st (b := (279, _, [], _, 8, 62)) (s_callV (W := 0) (cid := 0) (hw _ (List.mem_of_getElem? (i := 71) rfl)) (hw _ (List.mem_of_getElem? (i := 73) rfl)) (hw _ (List.mem_of_getElem? (i := 3) rfl)) (hw _ (List.mem_of_getElem? (i := 75) rfl)) (hw _ (List.mem_of_getElem? (i := 72) rfl)) (hw _ (List.mem_of_getElem? (i := 74) rfl)) (by decide) rfl (lenOf pd12 rfl) at_276 rfl (m_advance hw _ _ _ _) rfl rfl (by decide) (by decide) (by decide) (by decide)) ?_
    exact tC hw _ _ _ _ _ _ _ _ _ _ _ _ _ _ rfl (Or.inl ⟨by decide, by decide⟩)
  · skip
    rw [h2 h]
    refine EndsE.st (b := (268, _, _, _, 8, 62)) (s_aload at_266 rfl rfl) ?_
    refine EndsE.st (b := (271, _, [], _, 8, 62)) (s_callV (W := 0) (cid := 0) (hw _ (List.mem_of_getElem? (i := 42) rfl)) (hw _ (List.mem_of_getElem? (i := 44) rfl)) (hw _ (List.mem_of_getElem? (i := 3) rfl)) (hw _ (List.mem_of_getElem? (i := 46) rfl)) (hw _ (List.mem_of_getElem? (i := 43) rfl)) (hw _ (List.mem_of_getElem? (i := 45) rfl)) (by decide) rfl (lenOf pd6 rfl) at_268 rfl (m_makeUncertainDelta hw _ _ _ _) rfl rfl (by decide) (by decide) (by decide) (by decide)) ?_
    refine EndsE.st (b := (279, _, _, _, 8, 62)) (s_goto at_271 (by decide) (by decide)) ?_
    exact tC hw _ _ _ _ _ _ _ _ _ _ _ _ _ _ rfl (Or.inl ⟨by decide, by decide⟩)
theorem tB200 {l : Launch} {Z : State} {a0 : Array Value} (hw : ∀ d ∈ tables_1, d.before a0 Z = true) {ρ : oM} {vs ss : List Value} (x k mo u e mid s d ce : Int32) (G : Good vs ss 2 x [x + 1, x] true) (h1 : u = 0 → d = (Int32.ofNat 2)) (h2 : ¬ u = 0 → ce = (Int32.ofNat 2)) : EndsE l Z CK ρ "com/example/ontology_to_datalog/ontologytodatalog/datalog/RelationHasDeltaPinLaw" "law" code maxLocals room_1 ret (202, [.val (.int x), .val (.int k), .val (.int mo), .val (.int 2), .val (.int 0), .val (.int 0), .val (.int u), .val (.int e), .val (.ref 0), .val (.ref 1), .val (.ref 2), .val (.ref 3), .val (.ref 4), .val (.int 1), .val (.int mid), .unset, .unset], [], (.inr (.int, [.int x]) :: .inr (.int, [.int (x + 1)]) :: .inr (.int, [.int (x + 2)]) :: .inr (.int, [.int (x + 3)]) :: .inl (0, [.int 1, .ref 5, .int (Int32.ofNat 2), .ref 6, .ref 7, .int s, .int d, .int ce]) :: .inr (.int, vs) :: .inr (.int, ss) :: .inr (.object "com/example/ontology_to_datalog/ontologytodatalog/datalog/Relation$ColumnIndex", [.null]) :: []), 8, 62) (some (.int 1)) := by
  refine EndsE.st (b := (204, _, _, _, 8, 62)) (s_iload at_202 rfl) ?_
  refine EndsE.st (b := (215, _, _, _, 8, 62)) (s_if_le_t at_204 (by decide) (by decide) (by decide)) ?_
  refine EndsE.st (b := (217, _, _, _, 8, 62)) (s_iload at_215 rfl) ?_
  refine EndsE.st (b := (218, _, _, _, 8, 62)) (s_iconst (z := 1) at_217 rfl) ?_
  refine EndsE.st (b := (229, _, _, _, 8, 62)) (s_icmp_le_t at_218 (by decide) (by decide) (by decide)) ?_
  refine EndsE.st (b := (231, _, _, _, 8, 62)) (s_iload at_229 rfl) ?_
  refine EndsE.st (b := (242, _, _, _, 8, 62)) (s_if_eq_t at_231 (by decide) (by decide) (by decide)) ?_
  refine EndsE.st (b := (244, _, _, _, 8, 62)) (s_iload at_242 rfl) ?_
  refine EndsE.st (b := (246, _, _, _, 8, 62)) (s_iload at_244 rfl) ?_
  refine EndsE.st (b := (257, _, _, _, 8, 62)) (s_if_eq_t at_246 (by decide) (by decide) (by decide)) ?_
  refine EndsE.st (b := (258, _, _, _, 8, 62)) (s_iconst (z := 0) at_257 rfl) ?_
  refine EndsE.st (b := (259, _, _, _, 8, 62)) (s_iadd at_258) ?_
  refine EndsE.st (b := (261, [_, _, _, _, _, _, _, _, _, _, _, _, _, _, _, _, _], _, _, 8, 62)) (s_istore at_259 rfl) ?_
  refine EndsE.st (b := (263, _, _, _, 8, 62)) (s_iload at_261 rfl) ?_
  refine EndsE.if_eq (pc' := 274) at_263 (by decide) (by decide) (fun h => ?_) (fun h => ?_)
  · skip
    rw [h1 h]
    refine EndsE.st (b := (276, _, _, _, 8, 62)) (s_aload at_274 rfl rfl) ?_
    refine EndsE.st (b := (279, _, [], _, 8, 62)) (s_callV (W := 0) (cid := 0) (hw _ (List.mem_of_getElem? (i := 71) rfl)) (hw _ (List.mem_of_getElem? (i := 73) rfl)) (hw _ (List.mem_of_getElem? (i := 3) rfl)) (hw _ (List.mem_of_getElem? (i := 75) rfl)) (hw _ (List.mem_of_getElem? (i := 72) rfl)) (hw _ (List.mem_of_getElem? (i := 74) rfl)) (by decide) rfl (lenOf pd12 rfl) at_276 rfl (m_advance hw _ _ _ _) rfl rfl (by decide) (by decide) (by decide) (by decide)) ?_
    exact tC hw _ _ _ _ _ _ _ _ _ _ _ _ _ _ rfl (Or.inr ⟨by decide, by decide⟩)
  · skip
    rw [h2 h]
    refine EndsE.st (b := (268, _, _, _, 8, 62)) (s_aload at_266 rfl rfl) ?_
    refine EndsE.st (b := (271, _, [], _, 8, 62)) (s_callV (W := 0) (cid := 0) (hw _ (List.mem_of_getElem? (i := 42) rfl)) (hw _ (List.mem_of_getElem? (i := 44) rfl)) (hw _ (List.mem_of_getElem? (i := 3) rfl)) (hw _ (List.mem_of_getElem? (i := 46) rfl)) (hw _ (List.mem_of_getElem? (i := 43) rfl)) (hw _ (List.mem_of_getElem? (i := 45) rfl)) (by decide) rfl (lenOf pd6 rfl) at_268 rfl (m_makeUncertainDelta hw _ _ _ _) rfl rfl (by decide) (by decide) (by decide) (by decide)) ?_
    refine EndsE.st (b := (279, _, _, _, 8, 62)) (s_goto at_271 (by decide) (by decide)) ?_
    exact tC hw _ _ _ _ _ _ _ _ _ _ _ _ _ _ rfl (Or.inr ⟨by decide, by decide⟩)
theorem tB201 {l : Launch} {Z : State} {a0 : Array Value} (hw : ∀ d ∈ tables_1, d.before a0 Z = true) {ρ : oM} {vs ss : List Value} (x k mo u e mid s d ce : Int32) (G : Good vs ss 2 x [x + 1, x] true) (h1 : u = 0 → d = (Int32.ofNat 2)) (h2 : ¬ u = 0 → ce = (Int32.ofNat 2)) : EndsE l Z CK ρ "com/example/ontology_to_datalog/ontologytodatalog/datalog/RelationHasDeltaPinLaw" "law" code maxLocals room_1 ret (202, [.val (.int x), .val (.int k), .val (.int mo), .val (.int 2), .val (.int 0), .val (.int 1), .val (.int u), .val (.int e), .val (.ref 0), .val (.ref 1), .val (.ref 2), .val (.ref 3), .val (.ref 4), .val (.int 1), .val (.int mid), .unset, .unset], [], (.inr (.int, [.int x]) :: .inr (.int, [.int (x + 1)]) :: .inr (.int, [.int (x + 2)]) :: .inr (.int, [.int (x + 3)]) :: .inl (0, [.int 1, .ref 5, .int (Int32.ofNat 2), .ref 6, .ref 7, .int s, .int d, .int ce]) :: .inr (.int, vs) :: .inr (.int, ss) :: .inr (.object "com/example/ontology_to_datalog/ontologytodatalog/datalog/Relation$ColumnIndex", [.null]) :: []), 8, 62) (some (.int 1)) := by
  have Md := gDup (l := l) (ρ := ρ) (s := s) (d := d) (ce := ce) hw (t0 := .inr (.int, [.int x])) (t1 := .inr (.int, [.int (x + 1)])) (t2 := .inr (.int, [.int (x + 2)])) (t3 := .inr (.int, [.int (x + 3)])) G (by decide) 0 x rfl rfl
  refine EndsE.st (b := (204, _, _, _, 8, 62)) (s_iload at_202 rfl) ?_
  refine EndsE.st (b := (215, _, _, _, 8, 62)) (s_if_le_t at_204 (by decide) (by decide) (by decide)) ?_
  refine EndsE.st (b := (217, _, _, _, 8, 62)) (s_iload at_215 rfl) ?_
  refine EndsE.st (b := (218, _, _, _, 8, 62)) (s_iconst (z := 1) at_217 rfl) ?_
  refine EndsE.st (b := (229, _, _, _, 8, 62)) (s_icmp_le_t at_218 (by decide) (by decide) (by decide)) ?_
  refine EndsE.st (b := (231, _, _, _, 8, 62)) (s_iload at_229 rfl) ?_
  refine EndsE.st (b := (234, _, _, _, 8, 62)) (s_if_eq_f at_231 (by decide)) ?_
  refine EndsE.st (b := (236, _, _, _, 8, 62)) (s_aload at_234 rfl rfl) ?_
  refine EndsE.st (b := (238, _, _, _, 8, 62)) (s_aload at_236 rfl rfl) ?_
  refine EndsE.st (b := (241, _, [_], _, 8, 62)) (s_callV (W := 0) (cid := 0) (hw _ (List.mem_of_getElem? (i := 47) rfl)) (hw _ (List.mem_of_getElem? (i := 49) rfl)) (hw _ (List.mem_of_getElem? (i := 3) rfl)) (hw _ (List.mem_of_getElem? (i := 51) rfl)) (hw _ (List.mem_of_getElem? (i := 48) rfl)) (hw _ (List.mem_of_getElem? (i := 50) rfl)) (by decide) rfl (lenOf pd7 rfl) at_238 rfl (Md) rfl rfl (by decide) (by decide) (by decide) (by decide)) ?_
  refine EndsE.st (b := (242, _, _, _, 8, 62)) (s_pop at_241 rfl) ?_
  refine EndsE.st (b := (244, _, _, _, 8, 62)) (s_iload at_242 rfl) ?_
  refine EndsE.st (b := (246, _, _, _, 8, 62)) (s_iload at_244 rfl) ?_
  refine EndsE.st (b := (249, _, _, _, 8, 62)) (s_if_eq_f at_246 (by decide)) ?_
  refine EndsE.st (b := (250, _, _, _, 8, 62)) (s_iloadN at_249 rfl) ?_
  refine EndsE.st (b := (257, _, _, _, 8, 62)) (s_if_ne_t at_250 (by decide) (by decide) (by decide)) ?_
  refine EndsE.st (b := (258, _, _, _, 8, 62)) (s_iconst (z := 0) at_257 rfl) ?_
  refine EndsE.st (b := (259, _, _, _, 8, 62)) (s_iadd at_258) ?_
  refine EndsE.st (b := (261, [_, _, _, _, _, _, _, _, _, _, _, _, _, _, _, _, _], _, _, 8, 62)) (s_istore at_259 rfl) ?_
  refine EndsE.st (b := (263, _, _, _, 8, 62)) (s_iload at_261 rfl) ?_
  refine EndsE.if_eq (pc' := 274) at_263 (by decide) (by decide) (fun h => ?_) (fun h => ?_)
  · skip
    rw [h1 h]
    refine EndsE.st (b := (276, _, _, _, 8, 62)) (s_aload at_274 rfl rfl) ?_
    refine EndsE.st (b := (279, _, [], _, 8, 62)) (s_callV (W := 0) (cid := 0) (hw _ (List.mem_of_getElem? (i := 71) rfl)) (hw _ (List.mem_of_getElem? (i := 73) rfl)) (hw _ (List.mem_of_getElem? (i := 3) rfl)) (hw _ (List.mem_of_getElem? (i := 75) rfl)) (hw _ (List.mem_of_getElem? (i := 72) rfl)) (hw _ (List.mem_of_getElem? (i := 74) rfl)) (by decide) rfl (lenOf pd12 rfl) at_276 rfl (m_advance hw _ _ _ _) rfl rfl (by decide) (by decide) (by decide) (by decide)) ?_
    exact tC hw _ _ _ _ _ _ _ _ _ _ _ _ _ _ rfl (Or.inr ⟨by decide, by decide⟩)
  · skip
    rw [h2 h]
    refine EndsE.st (b := (268, _, _, _, 8, 62)) (s_aload at_266 rfl rfl) ?_
    refine EndsE.st (b := (271, _, [], _, 8, 62)) (s_callV (W := 0) (cid := 0) (hw _ (List.mem_of_getElem? (i := 42) rfl)) (hw _ (List.mem_of_getElem? (i := 44) rfl)) (hw _ (List.mem_of_getElem? (i := 3) rfl)) (hw _ (List.mem_of_getElem? (i := 46) rfl)) (hw _ (List.mem_of_getElem? (i := 43) rfl)) (hw _ (List.mem_of_getElem? (i := 45) rfl)) (by decide) rfl (lenOf pd6 rfl) at_268 rfl (m_makeUncertainDelta hw _ _ _ _) rfl rfl (by decide) (by decide) (by decide) (by decide)) ?_
    refine EndsE.st (b := (279, _, _, _, 8, 62)) (s_goto at_271 (by decide) (by decide)) ?_
    exact tC hw _ _ _ _ _ _ _ _ _ _ _ _ _ _ rfl (Or.inr ⟨by decide, by decide⟩)
theorem tB210 {l : Launch} {Z : State} {a0 : Array Value} (hw : ∀ d ∈ tables_1, d.before a0 Z = true) {ρ : oM} {vs ss : List Value} (x k mo u e mid s d ce : Int32) (G : Good vs ss 2 x [x + 1, x] true) (h1 : u = 0 → d = (Int32.ofNat 2)) (h2 : ¬ u = 0 → ce = (Int32.ofNat 2)) : EndsE l Z CK ρ "com/example/ontology_to_datalog/ontologytodatalog/datalog/RelationHasDeltaPinLaw" "law" code maxLocals room_1 ret (202, [.val (.int x), .val (.int k), .val (.int mo), .val (.int 2), .val (.int 1), .val (.int 0), .val (.int u), .val (.int e), .val (.ref 0), .val (.ref 1), .val (.ref 2), .val (.ref 3), .val (.ref 4), .val (.int 1), .val (.int mid), .unset, .unset], [], (.inr (.int, [.int x]) :: .inr (.int, [.int (x + 1)]) :: .inr (.int, [.int (x + 2)]) :: .inr (.int, [.int (x + 3)]) :: .inl (0, [.int 1, .ref 5, .int (Int32.ofNat 2), .ref 6, .ref 7, .int s, .int d, .int ce]) :: .inr (.int, vs) :: .inr (.int, ss) :: .inr (.object "com/example/ontology_to_datalog/ontologytodatalog/datalog/Relation$ColumnIndex", [.null]) :: []), 8, 62) (some (.int 1)) := by
  obtain ⟨vs3, ss3, G3, M3⟩ := gNew (l := l) (ρ := ρ) (s := s) (d := d) (ce := ce) hw (t0 := .inr (.int, [.int x])) (t1 := .inr (.int, [.int (x + 1)])) (t2 := .inr (.int, [.int (x + 2)])) (t3 := .inr (.int, [.int (x + 3)])) G (by decide) 2 (x + 2) rfl (by simp only [List.mem_cons, List.not_mem_nil, or_false, not_or]; exact ⟨(ne_add (by decide)), (ne_add0 (by decide))⟩) (fun z => by decide)
  refine EndsE.st (b := (204, _, _, _, 8, 62)) (s_iload at_202 rfl) ?_
  refine EndsE.st (b := (207, _, _, _, 8, 62)) (s_if_le_f at_204 (by decide)) ?_
  refine EndsE.st (b := (209, _, _, _, 8, 62)) (s_aload at_207 rfl rfl) ?_
  refine EndsE.st (b := (211, _, _, _, 8, 62)) (s_aload at_209 rfl rfl) ?_
  refine EndsE.st (b := (214, _, [_], _, 8, 62)) (s_callV (W := 0) (cid := 0) (hw _ (List.mem_of_getElem? (i := 47) rfl)) (hw _ (List.mem_of_getElem? (i := 49) rfl)) (hw _ (List.mem_of_getElem? (i := 3) rfl)) (hw _ (List.mem_of_getElem? (i := 51) rfl)) (hw _ (List.mem_of_getElem? (i := 48) rfl)) (hw _ (List.mem_of_getElem? (i := 50) rfl)) (by decide) rfl (lenOf pd7 rfl) at_211 rfl (M3) rfl rfl (by decide) (by decide) (by decide) (by decide)) ?_
  refine EndsE.st (b := (215, _, _, _, 8, 62)) (s_pop at_214 rfl) ?_
  refine EndsE.st (b := (217, _, _, _, 8, 62)) (s_iload at_215 rfl) ?_
  refine EndsE.st (b := (218, _, _, _, 8, 62)) (s_iconst (z := 1) at_217 rfl) ?_
  refine EndsE.st (b := (229, _, _, _, 8, 62)) (s_icmp_le_t at_218 (by decide) (by decide) (by decide)) ?_
  refine EndsE.st (b := (231, _, _, _, 8, 62)) (s_iload at_229 rfl) ?_
  refine EndsE.st (b := (242, _, _, _, 8, 62)) (s_if_eq_t at_231 (by decide) (by decide) (by decide)) ?_
  refine EndsE.st (b := (244, _, _, _, 8, 62)) (s_iload at_242 rfl) ?_
  refine EndsE.st (b := (246, _, _, _, 8, 62)) (s_iload at_244 rfl) ?_
  refine EndsE.st (b := (257, _, _, _, 8, 62)) (s_if_eq_t at_246 (by decide) (by decide) (by decide)) ?_
  refine EndsE.st (b := (258, _, _, _, 8, 62)) (s_iconst (z := 0) at_257 rfl) ?_
  refine EndsE.st (b := (259, _, _, _, 8, 62)) (s_iadd at_258) ?_
  refine EndsE.st (b := (261, [_, _, _, _, _, _, _, _, _, _, _, _, _, _, _, _, _], _, _, 8, 62)) (s_istore at_259 rfl) ?_
  refine EndsE.st (b := (263, _, _, _, 8, 62)) (s_iload at_261 rfl) ?_
  refine EndsE.if_eq (pc' := 274) at_263 (by decide) (by decide) (fun h => ?_) (fun h => ?_)
  · skip
    rw [h1 h]
    refine EndsE.st (b := (276, _, _, _, 8, 62)) (s_aload at_274 rfl rfl) ?_
    refine EndsE.st (b := (279, _, [], _, 8, 62)) (s_callV (W := 0) (cid := 0) (hw _ (List.mem_of_getElem? (i := 71) rfl)) (hw _ (List.mem_of_getElem? (i := 73) rfl)) (hw _ (List.mem_of_getElem? (i := 3) rfl)) (hw _ (List.mem_of_getElem? (i := 75) rfl)) (hw _ (List.mem_of_getElem? (i := 72) rfl)) (hw _ (List.mem_of_getElem? (i := 74) rfl)) (by decide) rfl (lenOf pd12 rfl) at_276 rfl (m_advance hw _ _ _ _) rfl rfl (by decide) (by decide) (by decide) (by decide)) ?_
    exact tC hw _ _ _ _ _ _ _ _ _ _ _ _ _ _ rfl (Or.inl ⟨by decide, by decide⟩)
  · skip
    rw [h2 h]
    refine EndsE.st (b := (268, _, _, _, 8, 62)) (s_aload at_266 rfl rfl) ?_
    refine EndsE.st (b := (271, _, [], _, 8, 62)) (s_callV (W := 0) (cid := 0) (hw _ (List.mem_of_getElem? (i := 42) rfl)) (hw _ (List.mem_of_getElem? (i := 44) rfl)) (hw _ (List.mem_of_getElem? (i := 3) rfl)) (hw _ (List.mem_of_getElem? (i := 46) rfl)) (hw _ (List.mem_of_getElem? (i := 43) rfl)) (hw _ (List.mem_of_getElem? (i := 45) rfl)) (by decide) rfl (lenOf pd6 rfl) at_268 rfl (m_makeUncertainDelta hw _ _ _ _) rfl rfl (by decide) (by decide) (by decide) (by decide)) ?_
    refine EndsE.st (b := (279, _, _, _, 8, 62)) (s_goto at_271 (by decide) (by decide)) ?_
    exact tC hw _ _ _ _ _ _ _ _ _ _ _ _ _ _ rfl (Or.inl ⟨by decide, by decide⟩)
theorem tB211 {l : Launch} {Z : State} {a0 : Array Value} (hw : ∀ d ∈ tables_1, d.before a0 Z = true) {ρ : oM} {vs ss : List Value} (x k mo u e mid s d ce : Int32) (G : Good vs ss 2 x [x + 1, x] true) (h1 : u = 0 → d = (Int32.ofNat 2)) (h2 : ¬ u = 0 → ce = (Int32.ofNat 2)) : EndsE l Z CK ρ "com/example/ontology_to_datalog/ontologytodatalog/datalog/RelationHasDeltaPinLaw" "law" code maxLocals room_1 ret (202, [.val (.int x), .val (.int k), .val (.int mo), .val (.int 2), .val (.int 1), .val (.int 1), .val (.int u), .val (.int e), .val (.ref 0), .val (.ref 1), .val (.ref 2), .val (.ref 3), .val (.ref 4), .val (.int 1), .val (.int mid), .unset, .unset], [], (.inr (.int, [.int x]) :: .inr (.int, [.int (x + 1)]) :: .inr (.int, [.int (x + 2)]) :: .inr (.int, [.int (x + 3)]) :: .inl (0, [.int 1, .ref 5, .int (Int32.ofNat 2), .ref 6, .ref 7, .int s, .int d, .int ce]) :: .inr (.int, vs) :: .inr (.int, ss) :: .inr (.object "com/example/ontology_to_datalog/ontologytodatalog/datalog/Relation$ColumnIndex", [.null]) :: []), 8, 62) (some (.int 1)) := by
  obtain ⟨vs3, ss3, G3, M3⟩ := gNew (l := l) (ρ := ρ) (s := s) (d := d) (ce := ce) hw (t0 := .inr (.int, [.int x])) (t1 := .inr (.int, [.int (x + 1)])) (t2 := .inr (.int, [.int (x + 2)])) (t3 := .inr (.int, [.int (x + 3)])) G (by decide) 2 (x + 2) rfl (by simp only [List.mem_cons, List.not_mem_nil, or_false, not_or]; exact ⟨(ne_add (by decide)), (ne_add0 (by decide))⟩) (fun z => by decide)
  have Md := gDup (l := l) (ρ := ρ) (s := s) (d := d) (ce := ce) hw (t0 := .inr (.int, [.int x])) (t1 := .inr (.int, [.int (x + 1)])) (t2 := .inr (.int, [.int (x + 2)])) (t3 := .inr (.int, [.int (x + 3)])) G3 (by decide) 0 x rfl rfl
  refine EndsE.st (b := (204, _, _, _, 8, 62)) (s_iload at_202 rfl) ?_
  refine EndsE.st (b := (207, _, _, _, 8, 62)) (s_if_le_f at_204 (by decide)) ?_
  refine EndsE.st (b := (209, _, _, _, 8, 62)) (s_aload at_207 rfl rfl) ?_
  refine EndsE.st (b := (211, _, _, _, 8, 62)) (s_aload at_209 rfl rfl) ?_
  refine EndsE.st (b := (214, _, [_], _, 8, 62)) (s_callV (W := 0) (cid := 0) (hw _ (List.mem_of_getElem? (i := 47) rfl)) (hw _ (List.mem_of_getElem? (i := 49) rfl)) (hw _ (List.mem_of_getElem? (i := 3) rfl)) (hw _ (List.mem_of_getElem? (i := 51) rfl)) (hw _ (List.mem_of_getElem? (i := 48) rfl)) (hw _ (List.mem_of_getElem? (i := 50) rfl)) (by decide) rfl (lenOf pd7 rfl) at_211 rfl (M3) rfl rfl (by decide) (by decide) (by decide) (by decide)) ?_
  refine EndsE.st (b := (215, _, _, _, 8, 62)) (s_pop at_214 rfl) ?_
  refine EndsE.st (b := (217, _, _, _, 8, 62)) (s_iload at_215 rfl) ?_
  refine EndsE.st (b := (218, _, _, _, 8, 62)) (s_iconst (z := 1) at_217 rfl) ?_
  refine EndsE.st (b := (229, _, _, _, 8, 62)) (s_icmp_le_t at_218 (by decide) (by decide) (by decide)) ?_
  refine EndsE.st (b := (231, _, _, _, 8, 62)) (s_iload at_229 rfl) ?_
  refine EndsE.st (b := (234, _, _, _, 8, 62)) (s_if_eq_f at_231 (by decide)) ?_
  refine EndsE.st (b := (236, _, _, _, 8, 62)) (s_aload at_234 rfl rfl) ?_
  refine EndsE.st (b := (238, _, _, _, 8, 62)) (s_aload at_236 rfl rfl) ?_
  refine EndsE.st (b := (241, _, [_], _, 8, 62)) (s_callV (W := 0) (cid := 0) (hw _ (List.mem_of_getElem? (i := 47) rfl)) (hw _ (List.mem_of_getElem? (i := 49) rfl)) (hw _ (List.mem_of_getElem? (i := 3) rfl)) (hw _ (List.mem_of_getElem? (i := 51) rfl)) (hw _ (List.mem_of_getElem? (i := 48) rfl)) (hw _ (List.mem_of_getElem? (i := 50) rfl)) (by decide) rfl (lenOf pd7 rfl) at_238 rfl (Md) rfl rfl (by decide) (by decide) (by decide) (by decide)) ?_
  refine EndsE.st (b := (242, _, _, _, 8, 62)) (s_pop at_241 rfl) ?_
  refine EndsE.st (b := (244, _, _, _, 8, 62)) (s_iload at_242 rfl) ?_
  refine EndsE.st (b := (246, _, _, _, 8, 62)) (s_iload at_244 rfl) ?_
  refine EndsE.st (b := (249, _, _, _, 8, 62)) (s_if_eq_f at_246 (by decide)) ?_
  refine EndsE.st (b := (250, _, _, _, 8, 62)) (s_iloadN at_249 rfl) ?_
  refine EndsE.st (b := (257, _, _, _, 8, 62)) (s_if_ne_t at_250 (by decide) (by decide) (by decide)) ?_
  refine EndsE.st (b := (258, _, _, _, 8, 62)) (s_iconst (z := 0) at_257 rfl) ?_
  refine EndsE.st (b := (259, _, _, _, 8, 62)) (s_iadd at_258) ?_
  refine EndsE.st (b := (261, [_, _, _, _, _, _, _, _, _, _, _, _, _, _, _, _, _], _, _, 8, 62)) (s_istore at_259 rfl) ?_
  refine EndsE.st (b := (263, _, _, _, 8, 62)) (s_iload at_261 rfl) ?_
  refine EndsE.if_eq (pc' := 274) at_263 (by decide) (by decide) (fun h => ?_) (fun h => ?_)
  · skip
    rw [h1 h]
    refine EndsE.st (b := (276, _, _, _, 8, 62)) (s_aload at_274 rfl rfl) ?_
    refine EndsE.st (b := (279, _, [], _, 8, 62)) (s_callV (W := 0) (cid := 0) (hw _ (List.mem_of_getElem? (i := 71) rfl)) (hw _ (List.mem_of_getElem? (i := 73) rfl)) (hw _ (List.mem_of_getElem? (i := 3) rfl)) (hw _ (List.mem_of_getElem? (i := 75) rfl)) (hw _ (List.mem_of_getElem? (i := 72) rfl)) (hw _ (List.mem_of_getElem? (i := 74) rfl)) (by decide) rfl (lenOf pd12 rfl) at_276 rfl (m_advance hw _ _ _ _) rfl rfl (by decide) (by decide) (by decide) (by decide)) ?_
    exact tC hw _ _ _ _ _ _ _ _ _ _ _ _ _ _ rfl (Or.inl ⟨by decide, by decide⟩)
  · skip
    rw [h2 h]
    refine EndsE.st (b := (268, _, _, _, 8, 62)) (s_aload at_266 rfl rfl) ?_
    refine EndsE.st (b := (271, _, [], _, 8, 62)) (s_callV (W := 0) (cid := 0) (hw _ (List.mem_of_getElem? (i := 42) rfl)) (hw _ (List.mem_of_getElem? (i := 44) rfl)) (hw _ (List.mem_of_getElem? (i := 3) rfl)) (hw _ (List.mem_of_getElem? (i := 46) rfl)) (hw _ (List.mem_of_getElem? (i := 43) rfl)) (hw _ (List.mem_of_getElem? (i := 45) rfl)) (by decide) rfl (lenOf pd6 rfl) at_268 rfl (m_makeUncertainDelta hw _ _ _ _) rfl rfl (by decide) (by decide) (by decide) (by decide)) ?_
    refine EndsE.st (b := (279, _, _, _, 8, 62)) (s_goto at_271 (by decide) (by decide)) ?_
    exact tC hw _ _ _ _ _ _ _ _ _ _ _ _ _ _ rfl (Or.inl ⟨by decide, by decide⟩)
theorem tB220 {l : Launch} {Z : State} {a0 : Array Value} (hw : ∀ d ∈ tables_1, d.before a0 Z = true) {ρ : oM} {vs ss : List Value} (x k mo u e mid s d ce : Int32) (G : Good vs ss 2 x [x + 1, x] true) (h1 : u = 0 → d = (Int32.ofNat 2)) (h2 : ¬ u = 0 → ce = (Int32.ofNat 2)) : EndsE l Z CK ρ "com/example/ontology_to_datalog/ontologytodatalog/datalog/RelationHasDeltaPinLaw" "law" code maxLocals room_1 ret (202, [.val (.int x), .val (.int k), .val (.int mo), .val (.int 2), .val (.int 2), .val (.int 0), .val (.int u), .val (.int e), .val (.ref 0), .val (.ref 1), .val (.ref 2), .val (.ref 3), .val (.ref 4), .val (.int 1), .val (.int mid), .unset, .unset], [], (.inr (.int, [.int x]) :: .inr (.int, [.int (x + 1)]) :: .inr (.int, [.int (x + 2)]) :: .inr (.int, [.int (x + 3)]) :: .inl (0, [.int 1, .ref 5, .int (Int32.ofNat 2), .ref 6, .ref 7, .int s, .int d, .int ce]) :: .inr (.int, vs) :: .inr (.int, ss) :: .inr (.object "com/example/ontology_to_datalog/ontologytodatalog/datalog/Relation$ColumnIndex", [.null]) :: []), 8, 62) (some (.int 1)) := by
  obtain ⟨vs3, ss3, G3, M3⟩ := gNew (l := l) (ρ := ρ) (s := s) (d := d) (ce := ce) hw (t0 := .inr (.int, [.int x])) (t1 := .inr (.int, [.int (x + 1)])) (t2 := .inr (.int, [.int (x + 2)])) (t3 := .inr (.int, [.int (x + 3)])) G (by decide) 2 (x + 2) rfl (by simp only [List.mem_cons, List.not_mem_nil, or_false, not_or]; exact ⟨(ne_add (by decide)), (ne_add0 (by decide))⟩) (fun z => by decide)
  obtain ⟨vs4, ss4, G4, M4⟩ := gNew (l := l) (ρ := ρ) (s := s) (d := d) (ce := ce) hw (t0 := .inr (.int, [.int x])) (t1 := .inr (.int, [.int (x + 1)])) (t2 := .inr (.int, [.int (x + 2)])) (t3 := .inr (.int, [.int (x + 3)])) G3 (by decide) 3 (x + 3) rfl (by simp only [List.mem_cons, List.not_mem_nil, or_false, not_or]; exact ⟨(ne_add (by decide)), (ne_add (by decide)), (ne_add0 (by decide))⟩) (fun z => by decide)
  refine EndsE.st (b := (204, _, _, _, 8, 62)) (s_iload at_202 rfl) ?_
  refine EndsE.st (b := (207, _, _, _, 8, 62)) (s_if_le_f at_204 (by decide)) ?_
  refine EndsE.st (b := (209, _, _, _, 8, 62)) (s_aload at_207 rfl rfl) ?_
  refine EndsE.st (b := (211, _, _, _, 8, 62)) (s_aload at_209 rfl rfl) ?_
  refine EndsE.st (b := (214, _, [_], _, 8, 62)) (s_callV (W := 0) (cid := 0) (hw _ (List.mem_of_getElem? (i := 47) rfl)) (hw _ (List.mem_of_getElem? (i := 49) rfl)) (hw _ (List.mem_of_getElem? (i := 3) rfl)) (hw _ (List.mem_of_getElem? (i := 51) rfl)) (hw _ (List.mem_of_getElem? (i := 48) rfl)) (hw _ (List.mem_of_getElem? (i := 50) rfl)) (by decide) rfl (lenOf pd7 rfl) at_211 rfl (M3) rfl rfl (by decide) (by decide) (by decide) (by decide)) ?_
  refine EndsE.st (b := (215, _, _, _, 8, 62)) (s_pop at_214 rfl) ?_
  refine EndsE.st (b := (217, _, _, _, 8, 62)) (s_iload at_215 rfl) ?_
  refine EndsE.st (b := (218, _, _, _, 8, 62)) (s_iconst (z := 1) at_217 rfl) ?_
  refine EndsE.st (b := (221, _, _, _, 8, 62)) (s_icmp_le_f at_218 (by decide)) ?_
  refine EndsE.st (b := (223, _, _, _, 8, 62)) (s_aload at_221 rfl rfl) ?_
  refine EndsE.st (b := (225, _, _, _, 8, 62)) (s_aload at_223 rfl rfl) ?_
  refine EndsE.st (b := (228, _, [_], _, 8, 62)) (s_callV (W := 0) (cid := 0) (hw _ (List.mem_of_getElem? (i := 47) rfl)) (hw _ (List.mem_of_getElem? (i := 49) rfl)) (hw _ (List.mem_of_getElem? (i := 3) rfl)) (hw _ (List.mem_of_getElem? (i := 51) rfl)) (hw _ (List.mem_of_getElem? (i := 48) rfl)) (hw _ (List.mem_of_getElem? (i := 50) rfl)) (by decide) rfl (lenOf pd7 rfl) at_225 rfl (M4) rfl rfl (by decide) (by decide) (by decide) (by decide)) ?_
  refine EndsE.st (b := (229, _, _, _, 8, 62)) (s_pop at_228 rfl) ?_
  refine EndsE.st (b := (231, _, _, _, 8, 62)) (s_iload at_229 rfl) ?_
  refine EndsE.st (b := (242, _, _, _, 8, 62)) (s_if_eq_t at_231 (by decide) (by decide) (by decide)) ?_
  refine EndsE.st (b := (244, _, _, _, 8, 62)) (s_iload at_242 rfl) ?_
  refine EndsE.st (b := (246, _, _, _, 8, 62)) (s_iload at_244 rfl) ?_
  refine EndsE.st (b := (257, _, _, _, 8, 62)) (s_if_eq_t at_246 (by decide) (by decide) (by decide)) ?_
  refine EndsE.st (b := (258, _, _, _, 8, 62)) (s_iconst (z := 0) at_257 rfl) ?_
  refine EndsE.st (b := (259, _, _, _, 8, 62)) (s_iadd at_258) ?_
  refine EndsE.st (b := (261, [_, _, _, _, _, _, _, _, _, _, _, _, _, _, _, _, _], _, _, 8, 62)) (s_istore at_259 rfl) ?_
  refine EndsE.st (b := (263, _, _, _, 8, 62)) (s_iload at_261 rfl) ?_
  refine EndsE.if_eq (pc' := 274) at_263 (by decide) (by decide) (fun h => ?_) (fun h => ?_)
  · skip
    rw [h1 h]
    refine EndsE.st (b := (276, _, _, _, 8, 62)) (s_aload at_274 rfl rfl) ?_
    refine EndsE.st (b := (279, _, [], _, 8, 62)) (s_callV (W := 0) (cid := 0) (hw _ (List.mem_of_getElem? (i := 71) rfl)) (hw _ (List.mem_of_getElem? (i := 73) rfl)) (hw _ (List.mem_of_getElem? (i := 3) rfl)) (hw _ (List.mem_of_getElem? (i := 75) rfl)) (hw _ (List.mem_of_getElem? (i := 72) rfl)) (hw _ (List.mem_of_getElem? (i := 74) rfl)) (by decide) rfl (lenOf pd12 rfl) at_276 rfl (m_advance hw _ _ _ _) rfl rfl (by decide) (by decide) (by decide) (by decide)) ?_
    exact tC hw _ _ _ _ _ _ _ _ _ _ _ _ _ _ rfl (Or.inl ⟨by decide, by decide⟩)
  · skip
    rw [h2 h]
    refine EndsE.st (b := (268, _, _, _, 8, 62)) (s_aload at_266 rfl rfl) ?_
    refine EndsE.st (b := (271, _, [], _, 8, 62)) (s_callV (W := 0) (cid := 0) (hw _ (List.mem_of_getElem? (i := 42) rfl)) (hw _ (List.mem_of_getElem? (i := 44) rfl)) (hw _ (List.mem_of_getElem? (i := 3) rfl)) (hw _ (List.mem_of_getElem? (i := 46) rfl)) (hw _ (List.mem_of_getElem? (i := 43) rfl)) (hw _ (List.mem_of_getElem? (i := 45) rfl)) (by decide) rfl (lenOf pd6 rfl) at_268 rfl (m_makeUncertainDelta hw _ _ _ _) rfl rfl (by decide) (by decide) (by decide) (by decide)) ?_
    refine EndsE.st (b := (279, _, _, _, 8, 62)) (s_goto at_271 (by decide) (by decide)) ?_
    exact tC hw _ _ _ _ _ _ _ _ _ _ _ _ _ _ rfl (Or.inl ⟨by decide, by decide⟩)
theorem tB221 {l : Launch} {Z : State} {a0 : Array Value} (hw : ∀ d ∈ tables_1, d.before a0 Z = true) {ρ : oM} {vs ss : List Value} (x k mo u e mid s d ce : Int32) (G : Good vs ss 2 x [x + 1, x] true) (h1 : u = 0 → d = (Int32.ofNat 2)) (h2 : ¬ u = 0 → ce = (Int32.ofNat 2)) : EndsE l Z CK ρ "com/example/ontology_to_datalog/ontologytodatalog/datalog/RelationHasDeltaPinLaw" "law" code maxLocals room_1 ret (202, [.val (.int x), .val (.int k), .val (.int mo), .val (.int 2), .val (.int 2), .val (.int 1), .val (.int u), .val (.int e), .val (.ref 0), .val (.ref 1), .val (.ref 2), .val (.ref 3), .val (.ref 4), .val (.int 1), .val (.int mid), .unset, .unset], [], (.inr (.int, [.int x]) :: .inr (.int, [.int (x + 1)]) :: .inr (.int, [.int (x + 2)]) :: .inr (.int, [.int (x + 3)]) :: .inl (0, [.int 1, .ref 5, .int (Int32.ofNat 2), .ref 6, .ref 7, .int s, .int d, .int ce]) :: .inr (.int, vs) :: .inr (.int, ss) :: .inr (.object "com/example/ontology_to_datalog/ontologytodatalog/datalog/Relation$ColumnIndex", [.null]) :: []), 8, 62) (some (.int 1)) := by
  obtain ⟨vs3, ss3, G3, M3⟩ := gNew (l := l) (ρ := ρ) (s := s) (d := d) (ce := ce) hw (t0 := .inr (.int, [.int x])) (t1 := .inr (.int, [.int (x + 1)])) (t2 := .inr (.int, [.int (x + 2)])) (t3 := .inr (.int, [.int (x + 3)])) G (by decide) 2 (x + 2) rfl (by simp only [List.mem_cons, List.not_mem_nil, or_false, not_or]; exact ⟨(ne_add (by decide)), (ne_add0 (by decide))⟩) (fun z => by decide)
  obtain ⟨vs4, ss4, G4, M4⟩ := gNew (l := l) (ρ := ρ) (s := s) (d := d) (ce := ce) hw (t0 := .inr (.int, [.int x])) (t1 := .inr (.int, [.int (x + 1)])) (t2 := .inr (.int, [.int (x + 2)])) (t3 := .inr (.int, [.int (x + 3)])) G3 (by decide) 3 (x + 3) rfl (by simp only [List.mem_cons, List.not_mem_nil, or_false, not_or]; exact ⟨(ne_add (by decide)), (ne_add (by decide)), (ne_add0 (by decide))⟩) (fun z => by decide)
  have Md := gDup (l := l) (ρ := ρ) (s := s) (d := d) (ce := ce) hw (t0 := .inr (.int, [.int x])) (t1 := .inr (.int, [.int (x + 1)])) (t2 := .inr (.int, [.int (x + 2)])) (t3 := .inr (.int, [.int (x + 3)])) G4 (by decide) 0 x rfl rfl
  refine EndsE.st (b := (204, _, _, _, 8, 62)) (s_iload at_202 rfl) ?_
  refine EndsE.st (b := (207, _, _, _, 8, 62)) (s_if_le_f at_204 (by decide)) ?_
  refine EndsE.st (b := (209, _, _, _, 8, 62)) (s_aload at_207 rfl rfl) ?_
  refine EndsE.st (b := (211, _, _, _, 8, 62)) (s_aload at_209 rfl rfl) ?_
  refine EndsE.st (b := (214, _, [_], _, 8, 62)) (s_callV (W := 0) (cid := 0) (hw _ (List.mem_of_getElem? (i := 47) rfl)) (hw _ (List.mem_of_getElem? (i := 49) rfl)) (hw _ (List.mem_of_getElem? (i := 3) rfl)) (hw _ (List.mem_of_getElem? (i := 51) rfl)) (hw _ (List.mem_of_getElem? (i := 48) rfl)) (hw _ (List.mem_of_getElem? (i := 50) rfl)) (by decide) rfl (lenOf pd7 rfl) at_211 rfl (M3) rfl rfl (by decide) (by decide) (by decide) (by decide)) ?_
  refine EndsE.st (b := (215, _, _, _, 8, 62)) (s_pop at_214 rfl) ?_
  refine EndsE.st (b := (217, _, _, _, 8, 62)) (s_iload at_215 rfl) ?_
  refine EndsE.st (b := (218, _, _, _, 8, 62)) (s_iconst (z := 1) at_217 rfl) ?_
  refine EndsE.st (b := (221, _, _, _, 8, 62)) (s_icmp_le_f at_218 (by decide)) ?_
  refine EndsE.st (b := (223, _, _, _, 8, 62)) (s_aload at_221 rfl rfl) ?_
  refine EndsE.st (b := (225, _, _, _, 8, 62)) (s_aload at_223 rfl rfl) ?_
  refine EndsE.st (b := (228, _, [_], _, 8, 62)) (s_callV (W := 0) (cid := 0) (hw _ (List.mem_of_getElem? (i := 47) rfl)) (hw _ (List.mem_of_getElem? (i := 49) rfl)) (hw _ (List.mem_of_getElem? (i := 3) rfl)) (hw _ (List.mem_of_getElem? (i := 51) rfl)) (hw _ (List.mem_of_getElem? (i := 48) rfl)) (hw _ (List.mem_of_getElem? (i := 50) rfl)) (by decide) rfl (lenOf pd7 rfl) at_225 rfl (M4) rfl rfl (by decide) (by decide) (by decide) (by decide)) ?_
  refine EndsE.st (b := (229, _, _, _, 8, 62)) (s_pop at_228 rfl) ?_
  refine EndsE.st (b := (231, _, _, _, 8, 62)) (s_iload at_229 rfl) ?_
  refine EndsE.st (b := (234, _, _, _, 8, 62)) (s_if_eq_f at_231 (by decide)) ?_
  refine EndsE.st (b := (236, _, _, _, 8, 62)) (s_aload at_234 rfl rfl) ?_
  refine EndsE.st (b := (238, _, _, _, 8, 62)) (s_aload at_236 rfl rfl) ?_
  refine EndsE.st (b := (241, _, [_], _, 8, 62)) (s_callV (W := 0) (cid := 0) (hw _ (List.mem_of_getElem? (i := 47) rfl)) (hw _ (List.mem_of_getElem? (i := 49) rfl)) (hw _ (List.mem_of_getElem? (i := 3) rfl)) (hw _ (List.mem_of_getElem? (i := 51) rfl)) (hw _ (List.mem_of_getElem? (i := 48) rfl)) (hw _ (List.mem_of_getElem? (i := 50) rfl)) (by decide) rfl (lenOf pd7 rfl) at_238 rfl (Md) rfl rfl (by decide) (by decide) (by decide) (by decide)) ?_
  refine EndsE.st (b := (242, _, _, _, 8, 62)) (s_pop at_241 rfl) ?_
  refine EndsE.st (b := (244, _, _, _, 8, 62)) (s_iload at_242 rfl) ?_
  refine EndsE.st (b := (246, _, _, _, 8, 62)) (s_iload at_244 rfl) ?_
  refine EndsE.st (b := (249, _, _, _, 8, 62)) (s_if_eq_f at_246 (by decide)) ?_
  refine EndsE.st (b := (250, _, _, _, 8, 62)) (s_iloadN at_249 rfl) ?_
  refine EndsE.st (b := (257, _, _, _, 8, 62)) (s_if_ne_t at_250 (by decide) (by decide) (by decide)) ?_
  refine EndsE.st (b := (258, _, _, _, 8, 62)) (s_iconst (z := 0) at_257 rfl) ?_
  refine EndsE.st (b := (259, _, _, _, 8, 62)) (s_iadd at_258) ?_
  refine EndsE.st (b := (261, [_, _, _, _, _, _, _, _, _, _, _, _, _, _, _, _, _], _, _, 8, 62)) (s_istore at_259 rfl) ?_
  refine EndsE.st (b := (263, _, _, _, 8, 62)) (s_iload at_261 rfl) ?_
  refine EndsE.if_eq (pc' := 274) at_263 (by decide) (by decide) (fun h => ?_) (fun h => ?_)
  · skip
    rw [h1 h]
    refine EndsE.st (b := (276, _, _, _, 8, 62)) (s_aload at_274 rfl rfl) ?_
    refine EndsE.st (b := (279, _, [], _, 8, 62)) (s_callV (W := 0) (cid := 0) (hw _ (List.mem_of_getElem? (i := 71) rfl)) (hw _ (List.mem_of_getElem? (i := 73) rfl)) (hw _ (List.mem_of_getElem? (i := 3) rfl)) (hw _ (List.mem_of_getElem? (i := 75) rfl)) (hw _ (List.mem_of_getElem? (i := 72) rfl)) (hw _ (List.mem_of_getElem? (i := 74) rfl)) (by decide) rfl (lenOf pd12 rfl) at_276 rfl (m_advance hw _ _ _ _) rfl rfl (by decide) (by decide) (by decide) (by decide)) ?_
    exact tC hw _ _ _ _ _ _ _ _ _ _ _ _ _ _ rfl (Or.inl ⟨by decide, by decide⟩)
  · skip
    rw [h2 h]
    refine EndsE.st (b := (268, _, _, _, 8, 62)) (s_aload at_266 rfl rfl) ?_
    refine EndsE.st (b := (271, _, [], _, 8, 62)) (s_callV (W := 0) (cid := 0) (hw _ (List.mem_of_getElem? (i := 42) rfl)) (hw _ (List.mem_of_getElem? (i := 44) rfl)) (hw _ (List.mem_of_getElem? (i := 3) rfl)) (hw _ (List.mem_of_getElem? (i := 46) rfl)) (hw _ (List.mem_of_getElem? (i := 43) rfl)) (hw _ (List.mem_of_getElem? (i := 45) rfl)) (by decide) rfl (lenOf pd6 rfl) at_268 rfl (m_makeUncertainDelta hw _ _ _ _) rfl rfl (by decide) (by decide) (by decide) (by decide)) ?_
    refine EndsE.st (b := (279, _, _, _, 8, 62)) (s_goto at_271 (by decide) (by decide)) ?_
    exact tC hw _ _ _ _ _ _ _ _ _ _ _ _ _ _ rfl (Or.inl ⟨by decide, by decide⟩)
theorem tA0 {l : Launch} {Z : State} {a0 : Array Value} (hw : ∀ d ∈ tables_1, d.before a0 Z = true) {ρ : oM} (x k mo k2 p u e : Int32) (hk2 : k2 = 0 ∨ k2 = 1 ∨ k2 = 2) (hp : p = 0 ∨ p = 1) : EndsE l Z CK ρ "com/example/ontology_to_datalog/ontologytodatalog/datalog/RelationHasDeltaPinLaw" "law" code maxLocals room_1 ret (121, [.val (.int x), .val (.int k), .val (.int mo), .val (.int 0), .val (.int k2), .val (.int p), .val (.int u), .val (.int e), .val (.ref 0), .val (.ref 1), .val (.ref 2), .val (.ref 3), .val (.ref 4), .val (.int 1), .unset, .unset, .unset], [], (.inr (.int, [.int x]) :: .inr (.int, [.int (x + 1)]) :: .inr (.int, [.int (x + 2)]) :: .inr (.int, [.int (x + 3)]) :: .inl (0, [.int 1, .ref 5, .int 0, .ref 6, .ref 7, .int 0, .int 0, .int 0]) :: .inr (.int, List.replicate 16 (.int 0)) :: .inr (.int, List.replicate 32 (.int 0)) :: .inr (.object "com/example/ontology_to_datalog/ontologytodatalog/datalog/Relation$ColumnIndex", [.null]) :: []), 8, 62) (some (.int 1)) := by
  have G := Good.empty x
  refine EndsE.st (b := (122, _, _, _, 8, 62)) (s_iloadN at_121 rfl) ?_
  refine EndsE.st (b := (133, _, _, _, 8, 62)) (s_if_le_t at_122 (by decide) (by decide) (by decide)) ?_
  refine EndsE.st (b := (134, _, _, _, 8, 62)) (s_iloadN at_133 rfl) ?_
  refine EndsE.st (b := (135, _, _, _, 8, 62)) (s_iconst (z := 1) at_134 rfl) ?_
  refine EndsE.st (b := (146, _, _, _, 8, 62)) (s_icmp_le_t at_135 (by decide) (by decide) (by decide)) ?_
  refine EndsE.st (b := (148, _, _, _, 8, 62)) (s_iload at_146 rfl) ?_
  refine EndsE.if_eq (pc' := 159) at_148 (by decide) (by decide) (fun h => ?_) (fun h => ?_)
  · skip
    refine EndsE.st (b := (161, _, _, _, 8, 62)) (s_aload at_159 rfl rfl) ?_
    refine EndsE.st (b := (164, _, [], _, 8, 62)) (s_callV (W := 0) (cid := 0) (hw _ (List.mem_of_getElem? (i := 71) rfl)) (hw _ (List.mem_of_getElem? (i := 73) rfl)) (hw _ (List.mem_of_getElem? (i := 3) rfl)) (hw _ (List.mem_of_getElem? (i := 75) rfl)) (hw _ (List.mem_of_getElem? (i := 72) rfl)) (hw _ (List.mem_of_getElem? (i := 74) rfl)) (by decide) rfl (lenOf pd12 rfl) at_161 rfl (m_advance hw _ _ _ _) rfl rfl (by decide) (by decide) (by decide) (by decide)) ?_
    refine EndsE.st (b := (166, _, _, _, 8, 62)) (s_aload at_164 rfl rfl) ?_
    refine EndsE.st (b := (169, _, [_], _, 8, 62)) (s_callV (W := 0) (cid := 0) (hw _ (List.mem_of_getElem? (i := 24) rfl)) (hw _ (List.mem_of_getElem? (i := 26) rfl)) (hw _ (List.mem_of_getElem? (i := 3) rfl)) (hw _ (List.mem_of_getElem? (i := 28) rfl)) (hw _ (List.mem_of_getElem? (i := 25) rfl)) (hw _ (List.mem_of_getElem? (i := 27) rfl)) (by decide) rfl (lenOf pd4 rfl) at_166 rfl (m_hasDelta hw _ _ _ _) rfl rfl (by decide) (by decide) (by decide) (by decide)) ?_
    refine EndsE.st (b := (171, [_, _, _, _, _, _, _, _, _, _, _, _, _, _, _, _, _], _, _, 8, 62)) (s_istore at_169 rfl) ?_
    refine EndsE.st (b := (173, _, _, _, 8, 62)) (s_iload at_171 rfl) ?_
    refine EndsE.st (b := (176, _, _, _, 8, 62)) (s_if_eq_f at_173 (by decide)) ?_
    refine EndsE.st (b := (178, _, _, _, 8, 62)) (s_iload at_176 rfl) ?_
    refine EndsE.st (b := (180, _, _, _, 8, 62)) (s_iload at_178 rfl) ?_
    refine EndsE.st (b := (183, _, _, _, 8, 62)) (s_if_ne_f at_180 h) ?_
    refine EndsE.st (b := (184, _, _, _, 8, 62)) (s_iloadN at_183 rfl) ?_
    refine EndsE.st (b := (191, _, _, _, 8, 62)) (s_if_le_t at_184 (by decide) (by decide) (by decide)) ?_
    refine EndsE.st (b := (192, _, _, _, 8, 62)) (s_iconst (z := 0) at_191 rfl) ?_
    refine EndsE.st (b := (195, _, _, _, 8, 62)) (s_icmp_ne_f at_192 (by decide)) ?_
    refine EndsE.st (b := (196, _, _, _, 8, 62)) (s_iconst (z := 1) at_195 rfl) ?_
    refine EndsE.st (b := (200, _, _, _, 8, 62)) (s_goto at_196 (by decide) (by decide)) ?_
    refine EndsE.st (b := (202, [_, _, _, _, _, _, _, _, _, _, _, _, _, _, _, _, _], _, _, 8, 62)) (s_istore at_200 rfl) ?_
    rcases hk2 with rfl | rfl | rfl <;> rcases hp with rfl | rfl <;> first | exact tB000 hw _ _ _ _ _ _ _ _ _ G (fun z => by first | rfl | exact absurd z h | exact absurd h z) (fun z => by first | rfl | exact absurd z h | exact absurd h z) | exact tB001 hw _ _ _ _ _ _ _ _ _ G (fun z => by first | rfl | exact absurd z h | exact absurd h z) (fun z => by first | rfl | exact absurd z h | exact absurd h z) | exact tB010 hw _ _ _ _ _ _ _ _ _ G (fun z => by first | rfl | exact absurd z h | exact absurd h z) (fun z => by first | rfl | exact absurd z h | exact absurd h z) | exact tB011 hw _ _ _ _ _ _ _ _ _ G (fun z => by first | rfl | exact absurd z h | exact absurd h z) (fun z => by first | rfl | exact absurd z h | exact absurd h z) | exact tB020 hw _ _ _ _ _ _ _ _ _ G (fun z => by first | rfl | exact absurd z h | exact absurd h z) (fun z => by first | rfl | exact absurd z h | exact absurd h z) | exact tB021 hw _ _ _ _ _ _ _ _ _ G (fun z => by first | rfl | exact absurd z h | exact absurd h z) (fun z => by first | rfl | exact absurd z h | exact absurd h z)
  · skip
    refine EndsE.st (b := (153, _, _, _, 8, 62)) (s_aload at_151 rfl rfl) ?_
    refine EndsE.st (b := (156, _, [], _, 8, 62)) (s_callV (W := 0) (cid := 0) (hw _ (List.mem_of_getElem? (i := 33) rfl)) (hw _ (List.mem_of_getElem? (i := 35) rfl)) (hw _ (List.mem_of_getElem? (i := 3) rfl)) (hw _ (List.mem_of_getElem? (i := 37) rfl)) (hw _ (List.mem_of_getElem? (i := 34) rfl)) (hw _ (List.mem_of_getElem? (i := 36) rfl)) (by decide) rfl (lenOf pd5 rfl) at_153 rfl (m_markCertain hw _ _ _ _) rfl rfl (by decide) (by decide) (by decide) (by decide)) ?_
    refine EndsE.st (b := (164, _, _, _, 8, 62)) (s_goto at_156 (by decide) (by decide)) ?_
    refine EndsE.st (b := (166, _, _, _, 8, 62)) (s_aload at_164 rfl rfl) ?_
    refine EndsE.st (b := (169, _, [_], _, 8, 62)) (s_callV (W := 0) (cid := 0) (hw _ (List.mem_of_getElem? (i := 24) rfl)) (hw _ (List.mem_of_getElem? (i := 26) rfl)) (hw _ (List.mem_of_getElem? (i := 3) rfl)) (hw _ (List.mem_of_getElem? (i := 28) rfl)) (hw _ (List.mem_of_getElem? (i := 25) rfl)) (hw _ (List.mem_of_getElem? (i := 27) rfl)) (by decide) rfl (lenOf pd4 rfl) at_166 rfl (m_hasDelta hw _ _ _ _) rfl rfl (by decide) (by decide) (by decide) (by decide)) ?_
    refine EndsE.st (b := (171, [_, _, _, _, _, _, _, _, _, _, _, _, _, _, _, _, _], _, _, 8, 62)) (s_istore at_169 rfl) ?_
    refine EndsE.st (b := (173, _, _, _, 8, 62)) (s_iload at_171 rfl) ?_
    refine EndsE.st (b := (176, _, _, _, 8, 62)) (s_if_eq_f at_173 (by decide)) ?_
    refine EndsE.st (b := (178, _, _, _, 8, 62)) (s_iload at_176 rfl) ?_
    refine EndsE.st (b := (180, _, _, _, 8, 62)) (s_iload at_178 rfl) ?_
    refine EndsE.st (b := (191, _, _, _, 8, 62)) (s_if_ne_t at_180 h (by decide) (by decide)) ?_
    refine EndsE.st (b := (192, _, _, _, 8, 62)) (s_iconst (z := 0) at_191 rfl) ?_
    refine EndsE.st (b := (195, _, _, _, 8, 62)) (s_icmp_ne_f at_192 (by decide)) ?_
    refine EndsE.st (b := (196, _, _, _, 8, 62)) (s_iconst (z := 1) at_195 rfl) ?_
    refine EndsE.st (b := (200, _, _, _, 8, 62)) (s_goto at_196 (by decide) (by decide)) ?_
    refine EndsE.st (b := (202, [_, _, _, _, _, _, _, _, _, _, _, _, _, _, _, _, _], _, _, 8, 62)) (s_istore at_200 rfl) ?_
    rcases hk2 with rfl | rfl | rfl <;> rcases hp with rfl | rfl <;> first | exact tB000 hw _ _ _ _ _ _ _ _ _ G (fun z => by first | rfl | exact absurd z h | exact absurd h z) (fun z => by first | rfl | exact absurd z h | exact absurd h z) | exact tB001 hw _ _ _ _ _ _ _ _ _ G (fun z => by first | rfl | exact absurd z h | exact absurd h z) (fun z => by first | rfl | exact absurd z h | exact absurd h z) | exact tB010 hw _ _ _ _ _ _ _ _ _ G (fun z => by first | rfl | exact absurd z h | exact absurd h z) (fun z => by first | rfl | exact absurd z h | exact absurd h z) | exact tB011 hw _ _ _ _ _ _ _ _ _ G (fun z => by first | rfl | exact absurd z h | exact absurd h z) (fun z => by first | rfl | exact absurd z h | exact absurd h z) | exact tB020 hw _ _ _ _ _ _ _ _ _ G (fun z => by first | rfl | exact absurd z h | exact absurd h z) (fun z => by first | rfl | exact absurd z h | exact absurd h z) | exact tB021 hw _ _ _ _ _ _ _ _ _ G (fun z => by first | rfl | exact absurd z h | exact absurd h z) (fun z => by first | rfl | exact absurd z h | exact absurd h z)
theorem tA1 {l : Launch} {Z : State} {a0 : Array Value} (hw : ∀ d ∈ tables_1, d.before a0 Z = true) {ρ : oM} (x k mo k2 p u e : Int32) (hk2 : k2 = 0 ∨ k2 = 1 ∨ k2 = 2) (hp : p = 0 ∨ p = 1) : EndsE l Z CK ρ "com/example/ontology_to_datalog/ontologytodatalog/datalog/RelationHasDeltaPinLaw" "law" code maxLocals room_1 ret (121, [.val (.int x), .val (.int k), .val (.int mo), .val (.int 1), .val (.int k2), .val (.int p), .val (.int u), .val (.int e), .val (.ref 0), .val (.ref 1), .val (.ref 2), .val (.ref 3), .val (.ref 4), .val (.int 1), .unset, .unset, .unset], [], (.inr (.int, [.int x]) :: .inr (.int, [.int (x + 1)]) :: .inr (.int, [.int (x + 2)]) :: .inr (.int, [.int (x + 3)]) :: .inl (0, [.int 1, .ref 5, .int 0, .ref 6, .ref 7, .int 0, .int 0, .int 0]) :: .inr (.int, List.replicate 16 (.int 0)) :: .inr (.int, List.replicate 32 (.int 0)) :: .inr (.object "com/example/ontology_to_datalog/ontologytodatalog/datalog/Relation$ColumnIndex", [.null]) :: []), 8, 62) (some (.int 1)) := by
  have G := Good.empty x
  obtain ⟨vs1, ss1, G1, M1⟩ := gFirst (l := l) (ρ := ρ) (s := 0) (d := 0) (ce := 0) hw (t0 := .inr (.int, [.int x])) (t1 := .inr (.int, [.int (x + 1)])) (t2 := .inr (.int, [.int (x + 2)])) (t3 := .inr (.int, [.int (x + 3)])) rfl G 0 x rfl rfl rfl
  refine EndsE.st (b := (122, _, _, _, 8, 62)) (s_iloadN at_121 rfl) ?_
  refine EndsE.st (b := (125, _, _, _, 8, 62)) (s_if_le_f at_122 (by decide)) ?_
  refine EndsE.st (b := (127, _, _, _, 8, 62)) (s_aload at_125 rfl rfl) ?_
  refine EndsE.st (b := (129, _, _, _, 8, 62)) (s_aload at_127 rfl rfl) ?_
  refine EndsE.st (b := (132, _, [_], _, 8, 62)) (s_callV (W := 0) (cid := 0) (hw _ (List.mem_of_getElem? (i := 47) rfl)) (hw _ (List.mem_of_getElem? (i := 49) rfl)) (hw _ (List.mem_of_getElem? (i := 3) rfl)) (hw _ (List.mem_of_getElem? (i := 51) rfl)) (hw _ (List.mem_of_getElem? (i := 48) rfl)) (hw _ (List.mem_of_getElem? (i := 50) rfl)) (by decide) rfl (lenOf pd7 rfl) at_129 rfl (M1) rfl rfl (by decide) (by decide) (by decide) (by decide)) ?_
  refine EndsE.st (b := (133, _, _, _, 8, 62)) (s_pop at_132 rfl) ?_
  refine EndsE.st (b := (134, _, _, _, 8, 62)) (s_iloadN at_133 rfl) ?_
  refine EndsE.st (b := (135, _, _, _, 8, 62)) (s_iconst (z := 1) at_134 rfl) ?_
  refine EndsE.st (b := (146, _, _, _, 8, 62)) (s_icmp_le_t at_135 (by decide) (by decide) (by decide)) ?_
  refine EndsE.st (b := (148, _, _, _, 8, 62)) (s_iload at_146 rfl) ?_
  refine EndsE.if_eq (pc' := 159) at_148 (by decide) (by decide) (fun h => ?_) (fun h => ?_)
  · skip
    refine EndsE.st (b := (161, _, _, _, 8, 62)) (s_aload at_159 rfl rfl) ?_
    refine EndsE.st (b := (164, _, [], _, 8, 62)) (s_callV (W := 0) (cid := 0) (hw _ (List.mem_of_getElem? (i := 71) rfl)) (hw _ (List.mem_of_getElem? (i := 73) rfl)) (hw _ (List.mem_of_getElem? (i := 3) rfl)) (hw _ (List.mem_of_getElem? (i := 75) rfl)) (hw _ (List.mem_of_getElem? (i := 72) rfl)) (hw _ (List.mem_of_getElem? (i := 74) rfl)) (by decide) rfl (lenOf pd12 rfl) at_161 rfl (m_advance hw _ _ _ _) rfl rfl (by decide) (by decide) (by decide) (by decide)) ?_
    refine EndsE.st (b := (166, _, _, _, 8, 62)) (s_aload at_164 rfl rfl) ?_
    refine EndsE.st (b := (169, _, [_], _, 8, 62)) (s_callV (W := 0) (cid := 0) (hw _ (List.mem_of_getElem? (i := 24) rfl)) (hw _ (List.mem_of_getElem? (i := 26) rfl)) (hw _ (List.mem_of_getElem? (i := 3) rfl)) (hw _ (List.mem_of_getElem? (i := 28) rfl)) (hw _ (List.mem_of_getElem? (i := 25) rfl)) (hw _ (List.mem_of_getElem? (i := 27) rfl)) (by decide) rfl (lenOf pd4 rfl) at_166 rfl (m_hasDelta hw _ _ _ _) rfl rfl (by decide) (by decide) (by decide) (by decide)) ?_
    refine EndsE.st (b := (171, [_, _, _, _, _, _, _, _, _, _, _, _, _, _, _, _, _], _, _, 8, 62)) (s_istore at_169 rfl) ?_
    refine EndsE.st (b := (173, _, _, _, 8, 62)) (s_iload at_171 rfl) ?_
    refine EndsE.st (b := (176, _, _, _, 8, 62)) (s_if_eq_f at_173 (by decide)) ?_
    refine EndsE.st (b := (178, _, _, _, 8, 62)) (s_iload at_176 rfl) ?_
    refine EndsE.st (b := (180, _, _, _, 8, 62)) (s_iload at_178 rfl) ?_
    refine EndsE.st (b := (183, _, _, _, 8, 62)) (s_if_ne_f at_180 h) ?_
    refine EndsE.st (b := (184, _, _, _, 8, 62)) (s_iloadN at_183 rfl) ?_
    refine EndsE.st (b := (187, _, _, _, 8, 62)) (s_if_le_f at_184 (by decide)) ?_
    refine EndsE.st (b := (188, _, _, _, 8, 62)) (s_iconst (z := 1) at_187 rfl) ?_
    refine EndsE.st (b := (192, _, _, _, 8, 62)) (s_goto at_188 (by decide) (by decide)) ?_
    refine EndsE.st (b := (195, _, _, _, 8, 62)) (s_icmp_ne_f at_192 (by decide)) ?_
    refine EndsE.st (b := (196, _, _, _, 8, 62)) (s_iconst (z := 1) at_195 rfl) ?_
    refine EndsE.st (b := (200, _, _, _, 8, 62)) (s_goto at_196 (by decide) (by decide)) ?_
    refine EndsE.st (b := (202, [_, _, _, _, _, _, _, _, _, _, _, _, _, _, _, _, _], _, _, 8, 62)) (s_istore at_200 rfl) ?_
    rcases hk2 with rfl | rfl | rfl <;> rcases hp with rfl | rfl <;> first | exact tB100 hw _ _ _ _ _ _ _ _ _ G1 (fun z => by first | rfl | exact absurd z h | exact absurd h z) (fun z => by first | rfl | exact absurd z h | exact absurd h z) | exact tB101 hw _ _ _ _ _ _ _ _ _ G1 (fun z => by first | rfl | exact absurd z h | exact absurd h z) (fun z => by first | rfl | exact absurd z h | exact absurd h z) | exact tB110 hw _ _ _ _ _ _ _ _ _ G1 (fun z => by first | rfl | exact absurd z h | exact absurd h z) (fun z => by first | rfl | exact absurd z h | exact absurd h z) | exact tB111 hw _ _ _ _ _ _ _ _ _ G1 (fun z => by first | rfl | exact absurd z h | exact absurd h z) (fun z => by first | rfl | exact absurd z h | exact absurd h z) | exact tB120 hw _ _ _ _ _ _ _ _ _ G1 (fun z => by first | rfl | exact absurd z h | exact absurd h z) (fun z => by first | rfl | exact absurd z h | exact absurd h z) | exact tB121 hw _ _ _ _ _ _ _ _ _ G1 (fun z => by first | rfl | exact absurd z h | exact absurd h z) (fun z => by first | rfl | exact absurd z h | exact absurd h z)
  · skip
    refine EndsE.st (b := (153, _, _, _, 8, 62)) (s_aload at_151 rfl rfl) ?_
    refine EndsE.st (b := (156, _, [], _, 8, 62)) (s_callV (W := 0) (cid := 0) (hw _ (List.mem_of_getElem? (i := 33) rfl)) (hw _ (List.mem_of_getElem? (i := 35) rfl)) (hw _ (List.mem_of_getElem? (i := 3) rfl)) (hw _ (List.mem_of_getElem? (i := 37) rfl)) (hw _ (List.mem_of_getElem? (i := 34) rfl)) (hw _ (List.mem_of_getElem? (i := 36) rfl)) (by decide) rfl (lenOf pd5 rfl) at_153 rfl (m_markCertain hw _ _ _ _) rfl rfl (by decide) (by decide) (by decide) (by decide)) ?_
    refine EndsE.st (b := (164, _, _, _, 8, 62)) (s_goto at_156 (by decide) (by decide)) ?_
    refine EndsE.st (b := (166, _, _, _, 8, 62)) (s_aload at_164 rfl rfl) ?_
    refine EndsE.st (b := (169, _, [_], _, 8, 62)) (s_callV (W := 0) (cid := 0) (hw _ (List.mem_of_getElem? (i := 24) rfl)) (hw _ (List.mem_of_getElem? (i := 26) rfl)) (hw _ (List.mem_of_getElem? (i := 3) rfl)) (hw _ (List.mem_of_getElem? (i := 28) rfl)) (hw _ (List.mem_of_getElem? (i := 25) rfl)) (hw _ (List.mem_of_getElem? (i := 27) rfl)) (by decide) rfl (lenOf pd4 rfl) at_166 rfl (m_hasDelta hw _ _ _ _) rfl rfl (by decide) (by decide) (by decide) (by decide)) ?_
    refine EndsE.st (b := (171, [_, _, _, _, _, _, _, _, _, _, _, _, _, _, _, _, _], _, _, 8, 62)) (s_istore at_169 rfl) ?_
    refine EndsE.st (b := (173, _, _, _, 8, 62)) (s_iload at_171 rfl) ?_
    refine EndsE.st (b := (176, _, _, _, 8, 62)) (s_if_eq_f at_173 (by decide)) ?_
    refine EndsE.st (b := (178, _, _, _, 8, 62)) (s_iload at_176 rfl) ?_
    refine EndsE.st (b := (180, _, _, _, 8, 62)) (s_iload at_178 rfl) ?_
    refine EndsE.st (b := (191, _, _, _, 8, 62)) (s_if_ne_t at_180 h (by decide) (by decide)) ?_
    refine EndsE.st (b := (192, _, _, _, 8, 62)) (s_iconst (z := 0) at_191 rfl) ?_
    refine EndsE.st (b := (195, _, _, _, 8, 62)) (s_icmp_ne_f at_192 (by decide)) ?_
    refine EndsE.st (b := (196, _, _, _, 8, 62)) (s_iconst (z := 1) at_195 rfl) ?_
    refine EndsE.st (b := (200, _, _, _, 8, 62)) (s_goto at_196 (by decide) (by decide)) ?_
    refine EndsE.st (b := (202, [_, _, _, _, _, _, _, _, _, _, _, _, _, _, _, _, _], _, _, 8, 62)) (s_istore at_200 rfl) ?_
    rcases hk2 with rfl | rfl | rfl <;> rcases hp with rfl | rfl <;> first | exact tB100 hw _ _ _ _ _ _ _ _ _ G1 (fun z => by first | rfl | exact absurd z h | exact absurd h z) (fun z => by first | rfl | exact absurd z h | exact absurd h z) | exact tB101 hw _ _ _ _ _ _ _ _ _ G1 (fun z => by first | rfl | exact absurd z h | exact absurd h z) (fun z => by first | rfl | exact absurd z h | exact absurd h z) | exact tB110 hw _ _ _ _ _ _ _ _ _ G1 (fun z => by first | rfl | exact absurd z h | exact absurd h z) (fun z => by first | rfl | exact absurd z h | exact absurd h z) | exact tB111 hw _ _ _ _ _ _ _ _ _ G1 (fun z => by first | rfl | exact absurd z h | exact absurd h z) (fun z => by first | rfl | exact absurd z h | exact absurd h z) | exact tB120 hw _ _ _ _ _ _ _ _ _ G1 (fun z => by first | rfl | exact absurd z h | exact absurd h z) (fun z => by first | rfl | exact absurd z h | exact absurd h z) | exact tB121 hw _ _ _ _ _ _ _ _ _ G1 (fun z => by first | rfl | exact absurd z h | exact absurd h z) (fun z => by first | rfl | exact absurd z h | exact absurd h z)
theorem tA2 {l : Launch} {Z : State} {a0 : Array Value} (hw : ∀ d ∈ tables_1, d.before a0 Z = true) {ρ : oM} (x k mo k2 p u e : Int32) (hk2 : k2 = 0 ∨ k2 = 1 ∨ k2 = 2) (hp : p = 0 ∨ p = 1) : EndsE l Z CK ρ "com/example/ontology_to_datalog/ontologytodatalog/datalog/RelationHasDeltaPinLaw" "law" code maxLocals room_1 ret (121, [.val (.int x), .val (.int k), .val (.int mo), .val (.int 2), .val (.int k2), .val (.int p), .val (.int u), .val (.int e), .val (.ref 0), .val (.ref 1), .val (.ref 2), .val (.ref 3), .val (.ref 4), .val (.int 1), .unset, .unset, .unset], [], (.inr (.int, [.int x]) :: .inr (.int, [.int (x + 1)]) :: .inr (.int, [.int (x + 2)]) :: .inr (.int, [.int (x + 3)]) :: .inl (0, [.int 1, .ref 5, .int 0, .ref 6, .ref 7, .int 0, .int 0, .int 0]) :: .inr (.int, List.replicate 16 (.int 0)) :: .inr (.int, List.replicate 32 (.int 0)) :: .inr (.object "com/example/ontology_to_datalog/ontologytodatalog/datalog/Relation$ColumnIndex", [.null]) :: []), 8, 62) (some (.int 1)) := by
  have G := Good.empty x
  obtain ⟨vs1, ss1, G1, M1⟩ := gFirst (l := l) (ρ := ρ) (s := 0) (d := 0) (ce := 0) hw (t0 := .inr (.int, [.int x])) (t1 := .inr (.int, [.int (x + 1)])) (t2 := .inr (.int, [.int (x + 2)])) (t3 := .inr (.int, [.int (x + 3)])) rfl G 0 x rfl rfl rfl
  obtain ⟨vs2, ss2, G2, M2⟩ := gNew (l := l) (ρ := ρ) (s := 0) (d := 0) (ce := 0) hw (t0 := .inr (.int, [.int x])) (t1 := .inr (.int, [.int (x + 1)])) (t2 := .inr (.int, [.int (x + 2)])) (t3 := .inr (.int, [.int (x + 3)])) G1 (by decide) 1 (x + 1) rfl (nin1 x) (fun _ => by decide)
  refine EndsE.st (b := (122, _, _, _, 8, 62)) (s_iloadN at_121 rfl) ?_
  refine EndsE.st (b := (125, _, _, _, 8, 62)) (s_if_le_f at_122 (by decide)) ?_
  refine EndsE.st (b := (127, _, _, _, 8, 62)) (s_aload at_125 rfl rfl) ?_
  refine EndsE.st (b := (129, _, _, _, 8, 62)) (s_aload at_127 rfl rfl) ?_
  refine EndsE.st (b := (132, _, [_], _, 8, 62)) (s_callV (W := 0) (cid := 0) (hw _ (List.mem_of_getElem? (i := 47) rfl)) (hw _ (List.mem_of_getElem? (i := 49) rfl)) (hw _ (List.mem_of_getElem? (i := 3) rfl)) (hw _ (List.mem_of_getElem? (i := 51) rfl)) (hw _ (List.mem_of_getElem? (i := 48) rfl)) (hw _ (List.mem_of_getElem? (i := 50) rfl)) (by decide) rfl (lenOf pd7 rfl) at_129 rfl (M1) rfl rfl (by decide) (by decide) (by decide) (by decide)) ?_
  refine EndsE.st (b := (133, _, _, _, 8, 62)) (s_pop at_132 rfl) ?_
  refine EndsE.st (b := (134, _, _, _, 8, 62)) (s_iloadN at_133 rfl) ?_
  refine EndsE.st (b := (135, _, _, _, 8, 62)) (s_iconst (z := 1) at_134 rfl) ?_
  refine EndsE.st (b := (138, _, _, _, 8, 62)) (s_icmp_le_f at_135 (by decide)) ?_
  refine EndsE.st (b := (140, _, _, _, 8, 62)) (s_aload at_138 rfl rfl) ?_
  refine EndsE.st (b := (142, _, _, _, 8, 62)) (s_aload at_140 rfl rfl) ?_
  refine EndsE.st (b := (145, _, [_], _, 8, 62)) (s_callV (W := 0) (cid := 0) (hw _ (List.mem_of_getElem? (i := 47) rfl)) (hw _ (List.mem_of_getElem? (i := 49) rfl)) (hw _ (List.mem_of_getElem? (i := 3) rfl)) (hw _ (List.mem_of_getElem? (i := 51) rfl)) (hw _ (List.mem_of_getElem? (i := 48) rfl)) (hw _ (List.mem_of_getElem? (i := 50) rfl)) (by decide) rfl (lenOf pd7 rfl) at_142 rfl (M2) rfl rfl (by decide) (by decide) (by decide) (by decide)) ?_
  refine EndsE.st (b := (146, _, _, _, 8, 62)) (s_pop at_145 rfl) ?_
  refine EndsE.st (b := (148, _, _, _, 8, 62)) (s_iload at_146 rfl) ?_
  refine EndsE.if_eq (pc' := 159) at_148 (by decide) (by decide) (fun h => ?_) (fun h => ?_)
  · skip
    refine EndsE.st (b := (161, _, _, _, 8, 62)) (s_aload at_159 rfl rfl) ?_
    refine EndsE.st (b := (164, _, [], _, 8, 62)) (s_callV (W := 0) (cid := 0) (hw _ (List.mem_of_getElem? (i := 71) rfl)) (hw _ (List.mem_of_getElem? (i := 73) rfl)) (hw _ (List.mem_of_getElem? (i := 3) rfl)) (hw _ (List.mem_of_getElem? (i := 75) rfl)) (hw _ (List.mem_of_getElem? (i := 72) rfl)) (hw _ (List.mem_of_getElem? (i := 74) rfl)) (by decide) rfl (lenOf pd12 rfl) at_161 rfl (m_advance hw _ _ _ _) rfl rfl (by decide) (by decide) (by decide) (by decide)) ?_
    refine EndsE.st (b := (166, _, _, _, 8, 62)) (s_aload at_164 rfl rfl) ?_
    refine EndsE.st (b := (169, _, [_], _, 8, 62)) (s_callV (W := 0) (cid := 0) (hw _ (List.mem_of_getElem? (i := 24) rfl)) (hw _ (List.mem_of_getElem? (i := 26) rfl)) (hw _ (List.mem_of_getElem? (i := 3) rfl)) (hw _ (List.mem_of_getElem? (i := 28) rfl)) (hw _ (List.mem_of_getElem? (i := 25) rfl)) (hw _ (List.mem_of_getElem? (i := 27) rfl)) (by decide) rfl (lenOf pd4 rfl) at_166 rfl (m_hasDelta hw _ _ _ _) rfl rfl (by decide) (by decide) (by decide) (by decide)) ?_
    refine EndsE.st (b := (171, [_, _, _, _, _, _, _, _, _, _, _, _, _, _, _, _, _], _, _, 8, 62)) (s_istore at_169 rfl) ?_
    refine EndsE.st (b := (173, _, _, _, 8, 62)) (s_iload at_171 rfl) ?_
    refine EndsE.st (b := (176, _, _, _, 8, 62)) (s_if_eq_f at_173 (by decide)) ?_
    refine EndsE.st (b := (178, _, _, _, 8, 62)) (s_iload at_176 rfl) ?_
    refine EndsE.st (b := (180, _, _, _, 8, 62)) (s_iload at_178 rfl) ?_
    refine EndsE.st (b := (183, _, _, _, 8, 62)) (s_if_ne_f at_180 h) ?_
    refine EndsE.st (b := (184, _, _, _, 8, 62)) (s_iloadN at_183 rfl) ?_
    refine EndsE.st (b := (187, _, _, _, 8, 62)) (s_if_le_f at_184 (by decide)) ?_
    refine EndsE.st (b := (188, _, _, _, 8, 62)) (s_iconst (z := 1) at_187 rfl) ?_
    refine EndsE.st (b := (192, _, _, _, 8, 62)) (s_goto at_188 (by decide) (by decide)) ?_
    refine EndsE.st (b := (195, _, _, _, 8, 62)) (s_icmp_ne_f at_192 (by decide)) ?_
    refine EndsE.st (b := (196, _, _, _, 8, 62)) (s_iconst (z := 1) at_195 rfl) ?_
    refine EndsE.st (b := (200, _, _, _, 8, 62)) (s_goto at_196 (by decide) (by decide)) ?_
    refine EndsE.st (b := (202, [_, _, _, _, _, _, _, _, _, _, _, _, _, _, _, _, _], _, _, 8, 62)) (s_istore at_200 rfl) ?_
    rcases hk2 with rfl | rfl | rfl <;> rcases hp with rfl | rfl <;> first | exact tB200 hw _ _ _ _ _ _ _ _ _ G2 (fun z => by first | rfl | exact absurd z h | exact absurd h z) (fun z => by first | rfl | exact absurd z h | exact absurd h z) | exact tB201 hw _ _ _ _ _ _ _ _ _ G2 (fun z => by first | rfl | exact absurd z h | exact absurd h z) (fun z => by first | rfl | exact absurd z h | exact absurd h z) | exact tB210 hw _ _ _ _ _ _ _ _ _ G2 (fun z => by first | rfl | exact absurd z h | exact absurd h z) (fun z => by first | rfl | exact absurd z h | exact absurd h z) | exact tB211 hw _ _ _ _ _ _ _ _ _ G2 (fun z => by first | rfl | exact absurd z h | exact absurd h z) (fun z => by first | rfl | exact absurd z h | exact absurd h z) | exact tB220 hw _ _ _ _ _ _ _ _ _ G2 (fun z => by first | rfl | exact absurd z h | exact absurd h z) (fun z => by first | rfl | exact absurd z h | exact absurd h z) | exact tB221 hw _ _ _ _ _ _ _ _ _ G2 (fun z => by first | rfl | exact absurd z h | exact absurd h z) (fun z => by first | rfl | exact absurd z h | exact absurd h z)
  · skip
    refine EndsE.st (b := (153, _, _, _, 8, 62)) (s_aload at_151 rfl rfl) ?_
    refine EndsE.st (b := (156, _, [], _, 8, 62)) (s_callV (W := 0) (cid := 0) (hw _ (List.mem_of_getElem? (i := 33) rfl)) (hw _ (List.mem_of_getElem? (i := 35) rfl)) (hw _ (List.mem_of_getElem? (i := 3) rfl)) (hw _ (List.mem_of_getElem? (i := 37) rfl)) (hw _ (List.mem_of_getElem? (i := 34) rfl)) (hw _ (List.mem_of_getElem? (i := 36) rfl)) (by decide) rfl (lenOf pd5 rfl) at_153 rfl (m_markCertain hw _ _ _ _) rfl rfl (by decide) (by decide) (by decide) (by decide)) ?_
    refine EndsE.st (b := (164, _, _, _, 8, 62)) (s_goto at_156 (by decide) (by decide)) ?_
    refine EndsE.st (b := (166, _, _, _, 8, 62)) (s_aload at_164 rfl rfl) ?_
    refine EndsE.st (b := (169, _, [_], _, 8, 62)) (s_callV (W := 0) (cid := 0) (hw _ (List.mem_of_getElem? (i := 24) rfl)) (hw _ (List.mem_of_getElem? (i := 26) rfl)) (hw _ (List.mem_of_getElem? (i := 3) rfl)) (hw _ (List.mem_of_getElem? (i := 28) rfl)) (hw _ (List.mem_of_getElem? (i := 25) rfl)) (hw _ (List.mem_of_getElem? (i := 27) rfl)) (by decide) rfl (lenOf pd4 rfl) at_166 rfl (m_hasDelta hw _ _ _ _) rfl rfl (by decide) (by decide) (by decide) (by decide)) ?_
    refine EndsE.st (b := (171, [_, _, _, _, _, _, _, _, _, _, _, _, _, _, _, _, _], _, _, 8, 62)) (s_istore at_169 rfl) ?_
    refine EndsE.st (b := (173, _, _, _, 8, 62)) (s_iload at_171 rfl) ?_
    refine EndsE.st (b := (176, _, _, _, 8, 62)) (s_if_eq_f at_173 (by decide)) ?_
    refine EndsE.st (b := (178, _, _, _, 8, 62)) (s_iload at_176 rfl) ?_
    refine EndsE.st (b := (180, _, _, _, 8, 62)) (s_iload at_178 rfl) ?_
    refine EndsE.st (b := (191, _, _, _, 8, 62)) (s_if_ne_t at_180 h (by decide) (by decide)) ?_
    refine EndsE.st (b := (192, _, _, _, 8, 62)) (s_iconst (z := 0) at_191 rfl) ?_
    refine EndsE.st (b := (195, _, _, _, 8, 62)) (s_icmp_ne_f at_192 (by decide)) ?_
    refine EndsE.st (b := (196, _, _, _, 8, 62)) (s_iconst (z := 1) at_195 rfl) ?_
    refine EndsE.st (b := (200, _, _, _, 8, 62)) (s_goto at_196 (by decide) (by decide)) ?_
    refine EndsE.st (b := (202, [_, _, _, _, _, _, _, _, _, _, _, _, _, _, _, _, _], _, _, 8, 62)) (s_istore at_200 rfl) ?_
    rcases hk2 with rfl | rfl | rfl <;> rcases hp with rfl | rfl <;> first | exact tB200 hw _ _ _ _ _ _ _ _ _ G2 (fun z => by first | rfl | exact absurd z h | exact absurd h z) (fun z => by first | rfl | exact absurd z h | exact absurd h z) | exact tB201 hw _ _ _ _ _ _ _ _ _ G2 (fun z => by first | rfl | exact absurd z h | exact absurd h z) (fun z => by first | rfl | exact absurd z h | exact absurd h z) | exact tB210 hw _ _ _ _ _ _ _ _ _ G2 (fun z => by first | rfl | exact absurd z h | exact absurd h z) (fun z => by first | rfl | exact absurd z h | exact absurd h z) | exact tB211 hw _ _ _ _ _ _ _ _ _ G2 (fun z => by first | rfl | exact absurd z h | exact absurd h z) (fun z => by first | rfl | exact absurd z h | exact absurd h z) | exact tB220 hw _ _ _ _ _ _ _ _ _ G2 (fun z => by first | rfl | exact absurd z h | exact absurd h z) (fun z => by first | rfl | exact absurd z h | exact absurd h z) | exact tB221 hw _ _ _ _ _ _ _ _ _ G2 (fun z => by first | rfl | exact absurd z h | exact absurd h z) (fun z => by first | rfl | exact absurd z h | exact absurd h z)
theorem tN {l : Launch} {Z : State} {a0 : Array Value} (hw : ∀ d ∈ tables_1, d.before a0 Z = true) {ρ : oM} (x k mo k1 k2 p u e : Int32) (hk1 : k1 = 0 ∨ k1 = 1 ∨ k1 = 2) (hk2 : k2 = 0 ∨ k2 = 1 ∨ k2 = 2) (hp : p = 0 ∨ p = 1) : EndsE l Z CK ρ "com/example/ontology_to_datalog/ontologytodatalog/datalog/RelationHasDeltaPinLaw" "law" code maxLocals room_1 ret (54, [.val (.int x), .val (.int k), .val (.int mo), .val (.int k1), .val (.int k2), .val (.int p), .val (.int u), .val (.int e), .unset, .unset, .unset, .unset, .unset, .unset, .unset, .unset, .unset], [], [], 0, 0) (some (.int 1)) := by
  refine EndsE.st (b := (55, _, _, _, 0, 0)) (s_iconst (z := 1) at_54 rfl) ?_
  refine EndsE.st (b := (57, _, _, [.inr (_, [_])], 1, 1)) (s_newarray (j := 0) (q := 1) (cap := 1) (hw _ (List.mem_of_getElem? (i := 0) rfl)) at_55 rfl (by decide) (by decide) (by decide) (by decide) (by decide) (by decide) rfl) ?_
  refine EndsE.st (b := (58, _, _, _, 1, 1)) (s_dup at_57 rfl) ?_
  refine EndsE.st (b := (59, _, _, _, 1, 1)) (s_iconst (z := 0) at_58 rfl) ?_
  refine EndsE.st (b := (60, _, _, _, 1, 1)) (s_iloadN at_59 rfl) ?_
  refine EndsE.st (b := (61, _, _, [.inr (_, [_])], 1, 1)) (s_iastore at_60 rfl (by decide) (Nat.le_of_ble_eq_true rfl) rfl) ?_
  refine EndsE.st (b := (63, [_, _, _, _, _, _, _, _, _, _, _, _, _, _, _, _, _], _, _, 1, 1)) (s_astore at_61 rfl rfl) ?_
  refine EndsE.st (b := (64, _, _, _, 1, 1)) (s_iconst (z := 1) at_63 rfl) ?_
  refine EndsE.st (b := (66, _, _, [.inr (_, [_]), .inr (_, [_])], 2, 2)) (s_newarray (j := 1) (q := 1) (cap := 1) (hw _ (List.mem_of_getElem? (i := 0) rfl)) at_64 rfl (by decide) (by decide) (by decide) (by decide) (by decide) (by decide) rfl) ?_
  refine EndsE.st (b := (67, _, _, _, 2, 2)) (s_dup at_66 rfl) ?_
  refine EndsE.st (b := (68, _, _, _, 2, 2)) (s_iconst (z := 0) at_67 rfl) ?_
  refine EndsE.st (b := (69, _, _, _, 2, 2)) (s_iloadN at_68 rfl) ?_
  refine EndsE.st (b := (70, _, _, _, 2, 2)) (s_iconst (z := 1) at_69 rfl) ?_
  refine EndsE.st (b := (71, _, _, _, 2, 2)) (s_iadd at_70) ?_
  refine EndsE.st (b := (72, _, _, [.inr (_, [_]), .inr (_, [_])], 2, 2)) (s_iastore at_71 rfl (by decide) (Nat.le_of_ble_eq_true rfl) rfl) ?_
  refine EndsE.st (b := (74, [_, _, _, _, _, _, _, _, _, _, _, _, _, _, _, _, _], _, _, 2, 2)) (s_astore at_72 rfl rfl) ?_
  refine EndsE.st (b := (75, _, _, _, 2, 2)) (s_iconst (z := 1) at_74 rfl) ?_
  refine EndsE.st (b := (77, _, _, [.inr (_, [_]), .inr (_, [_]), .inr (_, [_])], 3, 3)) (s_newarray (j := 2) (q := 1) (cap := 1) (hw _ (List.mem_of_getElem? (i := 0) rfl)) at_75 rfl (by decide) (by decide) (by decide) (by decide) (by decide) (by decide) rfl) ?_
  refine EndsE.st (b := (78, _, _, _, 3, 3)) (s_dup at_77 rfl) ?_
  refine EndsE.st (b := (79, _, _, _, 3, 3)) (s_iconst (z := 0) at_78 rfl) ?_
  refine EndsE.st (b := (80, _, _, _, 3, 3)) (s_iloadN at_79 rfl) ?_
  refine EndsE.st (b := (81, _, _, _, 3, 3)) (s_iconst (z := 2) at_80 rfl) ?_
  refine EndsE.st (b := (82, _, _, _, 3, 3)) (s_iadd at_81) ?_
  refine EndsE.st (b := (83, _, _, [.inr (_, [_]), .inr (_, [_]), .inr (_, [_])], 3, 3)) (s_iastore at_82 rfl (by decide) (Nat.le_of_ble_eq_true rfl) rfl) ?_
  refine EndsE.st (b := (85, [_, _, _, _, _, _, _, _, _, _, _, _, _, _, _, _, _], _, _, 3, 3)) (s_astore at_83 rfl rfl) ?_
  refine EndsE.st (b := (86, _, _, _, 3, 3)) (s_iconst (z := 1) at_85 rfl) ?_
  refine EndsE.st (b := (88, _, _, [.inr (_, [_]), .inr (_, [_]), .inr (_, [_]), .inr (_, [_])], 4, 4)) (s_newarray (j := 3) (q := 1) (cap := 1) (hw _ (List.mem_of_getElem? (i := 0) rfl)) at_86 rfl (by decide) (by decide) (by decide) (by decide) (by decide) (by decide) rfl) ?_
  refine EndsE.st (b := (89, _, _, _, 4, 4)) (s_dup at_88 rfl) ?_
  refine EndsE.st (b := (90, _, _, _, 4, 4)) (s_iconst (z := 0) at_89 rfl) ?_
  refine EndsE.st (b := (91, _, _, _, 4, 4)) (s_iloadN at_90 rfl) ?_
  refine EndsE.st (b := (92, _, _, _, 4, 4)) (s_iconst (z := 3) at_91 rfl) ?_
  refine EndsE.st (b := (93, _, _, _, 4, 4)) (s_iadd at_92) ?_
  refine EndsE.st (b := (94, _, _, [.inr (_, [_]), .inr (_, [_]), .inr (_, [_]), .inr (_, [_])], 4, 4)) (s_iastore at_93 rfl (by decide) (Nat.le_of_ble_eq_true rfl) rfl) ?_
  refine EndsE.st (b := (96, [_, _, _, _, _, _, _, _, _, _, _, _, _, _, _, _, _], _, _, 4, 4)) (s_astore at_94 rfl rfl) ?_
  refine EndsE.st (b := (99, _, _, [.inr (_, [_]), .inr (_, [_]), .inr (_, [_]), .inr (_, [_]), .inl (_, [_, _, _, _, _, _, _, _])], 5, 13)) (s_new (cid := 0) (j := 4) (vs := [.int 0, .null, .int 0, .null, .null, .int 0, .int 0, .int 0]) (hw _ (List.mem_of_getElem? (i := 1) rfl)) (hw _ (List.mem_of_getElem? (i := 2) rfl)) (hw _ (List.mem_of_getElem? (i := 3) rfl)) (kok0 hw) ⟨⟨.int, by decide, rfl⟩, ⟨⟨(.array .int), by decide, rfl⟩, ⟨⟨.int, by decide, rfl⟩, ⟨⟨(.array .int), by decide, rfl⟩, ⟨⟨(.array (.object "com/example/ontology_to_datalog/ontologytodatalog/datalog/Relation$ColumnIndex")), by decide, rfl⟩, ⟨⟨.int, by decide, rfl⟩, ⟨⟨.int, by decide, rfl⟩, ⟨⟨.int, by decide, rfl⟩, trivial⟩⟩⟩⟩⟩⟩⟩⟩ at_96 rfl (by decide) (by decide) rfl) ?_
  refine EndsE.st (b := (100, _, _, _, 5, 13)) (s_dup at_99 rfl) ?_
  refine EndsE.st (b := (101, _, _, _, 5, 13)) (s_iconst (z := 1) at_100 rfl) ?_
  refine EndsE.st (b := (104, _, [_], _, 8, 62)) (s_callI (W := 1) rfl (hw _ (List.mem_of_getElem? (i := 4) rfl)) (hw _ (List.mem_of_getElem? (i := 5) rfl)) (hw _ (List.mem_of_getElem? (i := 3) rfl)) (hw _ (List.mem_of_getElem? (i := 6) rfl)) (by decide) (lenOf pd1 rfl) at_101 (mctor hw) rfl rfl (by decide) (by decide) (by decide) (by decide)) ?_
  refine EndsE.st (b := (106, [_, _, _, _, _, _, _, _, _, _, _, _, _, _, _, _, _], _, _, 8, 62)) (s_astore at_104 rfl rfl) ?_
  refine EndsE.st (b := (108, _, _, _, 8, 62)) (s_aload at_106 rfl rfl) ?_
  refine EndsE.st (b := (111, _, [_], _, 8, 62)) (s_callV (W := 0) (cid := 0) (hw _ (List.mem_of_getElem? (i := 24) rfl)) (hw _ (List.mem_of_getElem? (i := 26) rfl)) (hw _ (List.mem_of_getElem? (i := 3) rfl)) (hw _ (List.mem_of_getElem? (i := 28) rfl)) (hw _ (List.mem_of_getElem? (i := 25) rfl)) (hw _ (List.mem_of_getElem? (i := 27) rfl)) (by decide) rfl (lenOf pd4 rfl) at_108 rfl (m_hasDelta hw _ _ _ _) rfl rfl (by decide) (by decide) (by decide) (by decide)) ?_
  refine EndsE.st (b := (114, _, _, _, 8, 62)) (s_if_ne_f at_111 rfl) ?_
  refine EndsE.st (b := (115, _, _, _, 8, 62)) (s_iconst (z := 1) at_114 rfl) ?_
  refine EndsE.st (b := (119, _, _, _, 8, 62)) (s_goto at_115 (by decide) (by decide)) ?_
  refine EndsE.st (b := (121, [_, _, _, _, _, _, _, _, _, _, _, _, _, _, _, _, _], _, _, 8, 62)) (s_istore at_119 rfl) ?_
  rcases hk1 with rfl | rfl | rfl
  · exact tA0 hw x k mo k2 p u e hk2 hp
  · exact tA1 hw x k mo k2 p u e hk2 hp
  · exact tA2 hw x k mo k2 p u e hk2 hp
theorem law_ok {l : Launch} {Z : State} {a0 : Array Value} (hw : ∀ d ∈ tables_1, d.before a0 Z = true) {ρ : oM} (x_ k mo : Int32) : ∃ A2, Met l Z CK ρ x code maxLocals ret room_1 tables_1 [.int x_, .int k, .int mo] [] (some (.int 1)) A2 := by
  refine Met.ofE (L0 := [.val (.int x_), .val (.int k), .val (.int mo), .unset, .unset, .unset, .unset, .unset, .unset, .unset, .unset, .unset, .unset, .unset, .unset, .unset, .unset]) pn0 (oentry rfl) rfl ?_
  refine EndsE.st (b := (1, _, _, _, 0, 0)) (s_iloadN at_0 rfl) ?_
  refine EndsE.st (b := (2, _, _, _, 0, 0)) (s_iconst (z := 3) at_1 rfl) ?_
  refine EndsE.st (b := (3, _, _, _, 0, 0)) (s_iand at_2) ?_
  refine EndsE.st (b := (4, _, _, _, 0, 0)) (s_iconst (z := 3) at_3 rfl) ?_
  refine EndsE.st (b := (5, _, _, _, 0, 0)) (s_irem at_4 (by decide)) ?_
  refine EndsE.st (b := (6, [_, _, _, _, _, _, _, _, _, _, _, _, _, _, _, _, _], _, _, 0, 0)) (s_istoreN at_5 rfl) ?_
  refine EndsE.st (b := (7, _, _, _, 0, 0)) (s_iloadN at_6 rfl) ?_
  refine EndsE.st (b := (8, _, _, _, 0, 0)) (s_iconst (z := 2) at_7 rfl) ?_
  refine EndsE.st (b := (9, _, _, _, 0, 0)) (s_iushr at_8) ?_
  refine EndsE.st (b := (10, _, _, _, 0, 0)) (s_iconst (z := 3) at_9 rfl) ?_
  refine EndsE.st (b := (11, _, _, _, 0, 0)) (s_iand at_10) ?_
  refine EndsE.st (b := (12, _, _, _, 0, 0)) (s_iconst (z := 3) at_11 rfl) ?_
  refine EndsE.st (b := (13, _, _, _, 0, 0)) (s_irem at_12 (by decide)) ?_
  refine EndsE.st (b := (15, [_, _, _, _, _, _, _, _, _, _, _, _, _, _, _, _, _], _, _, 0, 0)) (s_istore at_13 rfl) ?_
  refine EndsE.st (b := (16, _, _, _, 0, 0)) (s_iloadN at_15 rfl) ?_
  refine EndsE.st (b := (17, _, _, _, 0, 0)) (s_iconst (z := 1) at_16 rfl) ?_
  refine EndsE.st (b := (18, _, _, _, 0, 0)) (s_iand at_17) ?_
  refine EndsE.if_eq (pc' := 25) at_18 (by decide) (by decide) (fun h18 => ?_) (fun h18 => ?_)
  · skip
    refine EndsE.st (b := (26, _, _, _, 0, 0)) (s_iconst (z := 0) at_25 rfl) ?_
    refine EndsE.st (b := (28, [_, _, _, _, _, _, _, _, _, _, _, _, _, _, _, _, _], _, _, 0, 0)) (s_istore at_26 rfl) ?_
    refine EndsE.st (b := (29, _, _, _, 0, 0)) (s_iloadN at_28 rfl) ?_
    refine EndsE.st (b := (30, _, _, _, 0, 0)) (s_iconst (z := 2) at_29 rfl) ?_
    refine EndsE.st (b := (31, _, _, _, 0, 0)) (s_iand at_30) ?_
    refine EndsE.if_eq (pc' := 38) at_31 (by decide) (by decide) (fun h31 => ?_) (fun h31 => ?_)
    · skip
      refine EndsE.st (b := (39, _, _, _, 0, 0)) (s_iconst (z := 0) at_38 rfl) ?_
      refine EndsE.st (b := (41, [_, _, _, _, _, _, _, _, _, _, _, _, _, _, _, _, _], _, _, 0, 0)) (s_istore at_39 rfl) ?_
      refine EndsE.st (b := (42, _, _, _, 0, 0)) (s_iloadN at_41 rfl) ?_
      refine EndsE.st (b := (43, _, _, _, 0, 0)) (s_iconst (z := 4) at_42 rfl) ?_
      refine EndsE.st (b := (44, _, _, _, 0, 0)) (s_iand at_43) ?_
      refine EndsE.if_eq (pc' := 51) at_44 (by decide) (by decide) (fun h44 => ?_) (fun h44 => ?_)
      · skip
        refine EndsE.st (b := (52, _, _, _, 0, 0)) (s_iconst (z := 0) at_51 rfl) ?_
        refine EndsE.st (b := (54, [_, _, _, _, _, _, _, _, _, _, _, _, _, _, _, _, _], _, _, 0, 0)) (s_istore at_52 rfl) ?_
        exact tN hw _ _ _ _ _ _ _ _ (rem3 _) (rem3 _) (by first | exact Or.inl rfl | exact Or.inr rfl)
      · skip
        refine EndsE.st (b := (48, _, _, _, 0, 0)) (s_iconst (z := 1) at_47 rfl) ?_
        refine EndsE.st (b := (52, _, _, _, 0, 0)) (s_goto at_48 (by decide) (by decide)) ?_
        refine EndsE.st (b := (54, [_, _, _, _, _, _, _, _, _, _, _, _, _, _, _, _, _], _, _, 0, 0)) (s_istore at_52 rfl) ?_
        exact tN hw _ _ _ _ _ _ _ _ (rem3 _) (rem3 _) (by first | exact Or.inl rfl | exact Or.inr rfl)
    · skip
      refine EndsE.st (b := (35, _, _, _, 0, 0)) (s_iconst (z := 1) at_34 rfl) ?_
      refine EndsE.st (b := (39, _, _, _, 0, 0)) (s_goto at_35 (by decide) (by decide)) ?_
      refine EndsE.st (b := (41, [_, _, _, _, _, _, _, _, _, _, _, _, _, _, _, _, _], _, _, 0, 0)) (s_istore at_39 rfl) ?_
      refine EndsE.st (b := (42, _, _, _, 0, 0)) (s_iloadN at_41 rfl) ?_
      refine EndsE.st (b := (43, _, _, _, 0, 0)) (s_iconst (z := 4) at_42 rfl) ?_
      refine EndsE.st (b := (44, _, _, _, 0, 0)) (s_iand at_43) ?_
      refine EndsE.if_eq (pc' := 51) at_44 (by decide) (by decide) (fun h44 => ?_) (fun h44 => ?_)
      · skip
        refine EndsE.st (b := (52, _, _, _, 0, 0)) (s_iconst (z := 0) at_51 rfl) ?_
        refine EndsE.st (b := (54, [_, _, _, _, _, _, _, _, _, _, _, _, _, _, _, _, _], _, _, 0, 0)) (s_istore at_52 rfl) ?_
        exact tN hw _ _ _ _ _ _ _ _ (rem3 _) (rem3 _) (by first | exact Or.inl rfl | exact Or.inr rfl)
      · skip
        refine EndsE.st (b := (48, _, _, _, 0, 0)) (s_iconst (z := 1) at_47 rfl) ?_
        refine EndsE.st (b := (52, _, _, _, 0, 0)) (s_goto at_48 (by decide) (by decide)) ?_
        refine EndsE.st (b := (54, [_, _, _, _, _, _, _, _, _, _, _, _, _, _, _, _, _], _, _, 0, 0)) (s_istore at_52 rfl) ?_
        exact tN hw _ _ _ _ _ _ _ _ (rem3 _) (rem3 _) (by first | exact Or.inl rfl | exact Or.inr rfl)
  · skip
    refine EndsE.st (b := (22, _, _, _, 0, 0)) (s_iconst (z := 1) at_21 rfl) ?_
    refine EndsE.st (b := (26, _, _, _, 0, 0)) (s_goto at_22 (by decide) (by decide)) ?_
    refine EndsE.st (b := (28, [_, _, _, _, _, _, _, _, _, _, _, _, _, _, _, _, _], _, _, 0, 0)) (s_istore at_26 rfl) ?_
    refine EndsE.st (b := (29, _, _, _, 0, 0)) (s_iloadN at_28 rfl) ?_
    refine EndsE.st (b := (30, _, _, _, 0, 0)) (s_iconst (z := 2) at_29 rfl) ?_
    refine EndsE.st (b := (31, _, _, _, 0, 0)) (s_iand at_30) ?_
    refine EndsE.if_eq (pc' := 38) at_31 (by decide) (by decide) (fun h31 => ?_) (fun h31 => ?_)
    · skip
      refine EndsE.st (b := (39, _, _, _, 0, 0)) (s_iconst (z := 0) at_38 rfl) ?_
      refine EndsE.st (b := (41, [_, _, _, _, _, _, _, _, _, _, _, _, _, _, _, _, _], _, _, 0, 0)) (s_istore at_39 rfl) ?_
      refine EndsE.st (b := (42, _, _, _, 0, 0)) (s_iloadN at_41 rfl) ?_
      refine EndsE.st (b := (43, _, _, _, 0, 0)) (s_iconst (z := 4) at_42 rfl) ?_
      refine EndsE.st (b := (44, _, _, _, 0, 0)) (s_iand at_43) ?_
      refine EndsE.if_eq (pc' := 51) at_44 (by decide) (by decide) (fun h44 => ?_) (fun h44 => ?_)
      · skip
        refine EndsE.st (b := (52, _, _, _, 0, 0)) (s_iconst (z := 0) at_51 rfl) ?_
        refine EndsE.st (b := (54, [_, _, _, _, _, _, _, _, _, _, _, _, _, _, _, _, _], _, _, 0, 0)) (s_istore at_52 rfl) ?_
        exact tN hw _ _ _ _ _ _ _ _ (rem3 _) (rem3 _) (by first | exact Or.inl rfl | exact Or.inr rfl)
      · skip
        refine EndsE.st (b := (48, _, _, _, 0, 0)) (s_iconst (z := 1) at_47 rfl) ?_
        refine EndsE.st (b := (52, _, _, _, 0, 0)) (s_goto at_48 (by decide) (by decide)) ?_
        refine EndsE.st (b := (54, [_, _, _, _, _, _, _, _, _, _, _, _, _, _, _, _, _], _, _, 0, 0)) (s_istore at_52 rfl) ?_
        exact tN hw _ _ _ _ _ _ _ _ (rem3 _) (rem3 _) (by first | exact Or.inl rfl | exact Or.inr rfl)
    · skip
      refine EndsE.st (b := (35, _, _, _, 0, 0)) (s_iconst (z := 1) at_34 rfl) ?_
      refine EndsE.st (b := (39, _, _, _, 0, 0)) (s_goto at_35 (by decide) (by decide)) ?_
      refine EndsE.st (b := (41, [_, _, _, _, _, _, _, _, _, _, _, _, _, _, _, _, _], _, _, 0, 0)) (s_istore at_39 rfl) ?_
      refine EndsE.st (b := (42, _, _, _, 0, 0)) (s_iloadN at_41 rfl) ?_
      refine EndsE.st (b := (43, _, _, _, 0, 0)) (s_iconst (z := 4) at_42 rfl) ?_
      refine EndsE.st (b := (44, _, _, _, 0, 0)) (s_iand at_43) ?_
      refine EndsE.if_eq (pc' := 51) at_44 (by decide) (by decide) (fun h44 => ?_) (fun h44 => ?_)
      · skip
        refine EndsE.st (b := (52, _, _, _, 0, 0)) (s_iconst (z := 0) at_51 rfl) ?_
        refine EndsE.st (b := (54, [_, _, _, _, _, _, _, _, _, _, _, _, _, _, _, _, _], _, _, 0, 0)) (s_istore at_52 rfl) ?_
        exact tN hw _ _ _ _ _ _ _ _ (rem3 _) (rem3 _) (by first | exact Or.inl rfl | exact Or.inr rfl)
      · skip
        refine EndsE.st (b := (48, _, _, _, 0, 0)) (s_iconst (z := 1) at_47 rfl) ?_
        refine EndsE.st (b := (52, _, _, _, 0, 0)) (s_goto at_48 (by decide) (by decide)) ?_
        refine EndsE.st (b := (54, [_, _, _, _, _, _, _, _, _, _, _, _, _, _, _, _, _], _, _, 0, 0)) (s_istore at_52 rfl) ?_
        exact tN hw _ _ _ _ _ _ _ _ (rem3 _) (rem3 _) (by first | exact Or.inl rfl | exact Or.inr rfl)
set_option maxRecDepth 65536 in
set_option maxHeartbeats 40000000 in
theorem comes_1 {Post : Tables → Env → Array Value → State → Outcome → State → Prop} (hpost : ∀ tb e args s v u, (limb_1_1.after args s (.returned v) u = true ∧ limb_1_2.after args s (.returned v) u = true ∧ True) → FrameEnd s (.returned v) u (Jvm.fieldLocs frame_1_writes args s ++ Jvm.arrayLocs frame_1_arrays args s ++ Jvm.staticLocs frame_1_statics s) 24 192 → Post tb e args s (.returned v) u) :
    ArmFor flags0 classFile x code maxLocals ret World_1 tables_1 room_1 Calls_1 rest_1 Pre_1 Post := by
  intro l hfl _ _ p e ha hc hk s m args below hf hA hF happ hP
  obtain ⟨hcalls, hrest, hpre⟩ := hP
  obtain ⟨-, -, -, hnamed, -, -, -, hat⟩ := (Spec.applies_iff hf).mp happ
  obtain ⟨hg, hn⟩ := and_e (Cond.before_iff.mp (show (Jvm.Cond.and given_1 narrow_1).before args s = true from hpre))
  obtain ⟨g0, gg1⟩ := and_e hg
  obtain ⟨g1, gg2⟩ := and_e gg1
  obtain ⟨g2, gg3⟩ := and_e gg2
  obtain ⟨w0, w1, w2, rfl⟩ : ∃ w0 w1 w2 : Value, args = #[w0, w1, w2] := by
    have hs : args.size = 3 := by simpa [Cond.value, given_1] using g0
    obtain ⟨L⟩ := args
    match L, hs with
    | [w0, w1, w2], _ => exact ⟨w0, w1, w2, rfl⟩
  have hw := fun d (hd : d ∈ tables_1) => atoms_spec (ws := Jvm.Cond.code x code maxLocals ret :: tables_1) hat d (List.mem_cons_of_mem _ hd)
  obtain ⟨i0, ei0⟩ := is_v g1
  obtain rfl : w0 = (.int i0) := Option.some.inj ei0
  obtain ⟨i1, ei1⟩ := is_v g2
  obtain rfl : w1 = (.int i1) := Option.some.inj ei1
  obtain ⟨i2, ei2⟩ := is_v gg3
  obtain rfl : w2 = (.int i2) := Option.some.inj ei2
  obtain ⟨A2, hM⟩ := law_ok (l := l) hw (ρ := (fun k => s.heap.size + k, fun _ => 0)) i0 i1 i2
  obtain ⟨n, o, h1, h2, h3, v', L, rfl, ⟨rfl, N, -⟩, hq⟩ := hM s.heap ⟨⟨rfl, fun k _ => rfl, fun j k h => Nat.add_lt_add_left h _⟩, fun k c h => by simp at h⟩ p e ha hc hk s m _ below hf ((Spec.applies_iff_loose hf).mp happ).1 ⟨rfl, State.Warmed39.refl s, rfl⟩ trivial
  refine ⟨n, _, h1, h2, h3, hpost _ _ _ _ _ _ ⟨Cond.after_iff.mpr rfl, Cond.after_iff.mpr (eq_i res_at (Term.int_eval (1)) rfl), trivial⟩ ⟨hq.1, hq.2.1, (hq.2.2.sift fun y hy => Or.inr (N y hy)).mono (by decide) (by decide)⟩⟩
theorem main_1_1 : Claimed_1_1 := comes_1 fun _ _ _ _ _ _ h hF => ⟨h.1, hF⟩
theorem main_1_2 : Claimed_1_2 := comes_1 fun _ _ _ _ _ _ h hF => ⟨h.2.1, hF⟩
end Jvm.Pilot.@@N@@
namespace Jvm.Pilot.@@N@@
open Jvm Jvm.ClassFile Sem Op Lib Jvm.Free Jvm.Stand Jvm.Pilot.@@N@@.Jvm.D
/-! MADE BY PROGRAM (witnessworld.py) out of the Statement's table words and the real class files: 13 classes; the members and pool entries that the words name. The judged class is class 1, her method 1. -/
namespace start1
open Jvm.ClassFile
def u (s : String) : CpInfo := .utf8 (stringToUtf16 s)
/-- a pool by its gaps: so many unusable entries, then the entry; so many at the end -/
def gap : Nat → List CpInfo → List CpInfo
  | 0, r => r
  | n + 1, r => .unusable :: gap n r
def poolList (es : List (Nat × CpInfo)) (last : Nat) : List CpInfo := es.foldr (fun e r => gap e.1 (e.2 :: r)) (gap last [])
def pool (es : List (Nat × CpInfo)) (last : Nat) : Array CpInfo := ⟨poolList es last⟩
def fileOf (pool : Array CpInfo) (this : Nat) (attrs : Array Attribute := #[]) (ms : Array MethodInfo := #[]) (fl : Nat := 33) (sup : Nat := 0) (ifs : Array Nat := #[]) (fds : Array FieldInfo := #[]) : ClassFile where
  minorVersion := 0
  majorVersion := 65
  constantPool := pool
  accessFlags := fl
  thisClass := this
  superClass := sup
  interfaces := ifs
  fields := fds
  methods := ms
  attributes := attrs
def plain (name : String) (sup : Option ClassId) : Class where
  name := name
  kind := .ordinary
  loader := none
  accessFlags := 33
  super := sup
  interfaces := #[]
  cf := none
  fields := #[]
  methods := #[]
  instanceTypes := #[]
  staticTypes := #[]
  resolved := #[]
  callSites := []
  init := .initialized
  statics := none
  mirror := none

def pool0 : Array CpInfo := pool [(5, u "<init>"), (0, u "()V"), (1, .class_ 10), (1, u "java/lang/Object")] 113

def k0c0 : Code := { maxStack := 0, maxLocals := 1, code := object_method_1_code, exceptionTable := #[], attributes := #[] }
def k0m0 : Method := { name := "<init>", desc := "()V", sig := { parameters := [], returnType := none }, accessFlags := 1, code := some k0c0 }
/-- java/lang/Object -/
def k0 : Class := { plain "java/lang/Object" none with
  accessFlags := 33
  interfaces := #[]
  cf := some (fileOf pool0 8 #[] #[{ accessFlags := 1, nameIndex := 5, descriptorIndex := 6, attributes := #[] }] 33 0 #[] #[])
  fields := #[]
  methods := #[k0m0]
  instanceTypes := #[]
  staticTypes := #[]
  resolved := Array.replicate 124 none
  statics := none }

def pool1 : Array CpInfo := pool [(2, .class_ 4), (1, u "java/lang/Object"), (0, u "<init>"), (0, u "()V"), (0, .class_ 8), (0, u "com/example/ontology_to_datalog/ontologytodatalog/datalog/Relation"), (0, .methodref 7 10), (0, .nameAndType 5 11), (0, u "(I)V"), (0, .methodref 7 13), (0, .nameAndType 14 15), (0, u "hasDelta"), (0, u "()Z"), (0, .methodref 7 17), (0, .nameAndType 18 19), (0, u "add"), (0, u "([I)Z"), (0, .methodref 7 21), (0, .nameAndType 22 6), (0, u "markCertain"), (0, .methodref 7 24), (0, .nameAndType 25 6), (0, u "advance"), (0, .methodref 7 27), (0, .nameAndType 28 6), (0, u "makeUncertainDelta"), (0, .class_ 30), (0, u "com/example/ontology_to_datalog/ontologytodatalog/datalog/RelationHasDeltaPinLaw"), (2, u "law"), (0, u "(III)Z")] 5

def k1m0 : Method := { name := "<init>", desc := "()V", sig := { parameters := [], returnType := none }, accessFlags := 1, code := none }
def k1c1 : Code := { maxStack := 5, maxLocals := 17, code := code, exceptionTable := #[], attributes := #[] }
def k1m1 : Method := { name := "law", desc := "(III)Z", sig := { parameters := [.int, .int, .int], returnType := some .boolean }, accessFlags := 9, code := some k1c1 }
/-- com/example/ontology_to_datalog/ontologytodatalog/datalog/RelationHasDeltaPinLaw -/
def k1 : Class := { plain "com/example/ontology_to_datalog/ontologytodatalog/datalog/RelationHasDeltaPinLaw" (some 0) with
  accessFlags := 49
  interfaces := #[]
  cf := some (fileOf pool1 29 #[] #[{ accessFlags := 1, nameIndex := 5, descriptorIndex := 6, attributes := #[] }, { accessFlags := 9, nameIndex := 33, descriptorIndex := 34, attributes := #[] }] 49 2 #[] #[])
  fields := #[]
  methods := #[k1m0, k1m1]
  instanceTypes := #[]
  staticTypes := #[]
  resolved := Array.replicate 40 none
  statics := none }

def pool2 : Array CpInfo := pool [(1, .methodref 2 3), (0, .class_ 4), (0, .nameAndType 5 6), (0, u "java/lang/Object"), (0, u "<init>"), (0, u "()V"), (0, .fieldref 8 9), (0, .class_ 10), (0, .nameAndType 11 12), (0, u "com/example/ontology_to_datalog/ontologytodatalog/datalog/Relation"), (0, u "arity"), (0, u "I"), (0, .methodref 14 15), (0, .class_ 16), (0, .nameAndType 17 18), (0, u "java/lang/Math"), (0, u "max"), (0, u "(II)I"), (0, .fieldref 8 20), (0, .nameAndType 21 22), (0, u "values"), (0, u "[I"), (0, .fieldref 8 24), (0, .nameAndType 25 22), (0, u "slots"), (0, .class_ 27), (0, u "com/example/ontology_to_datalog/ontologytodatalog/datalog/Relation$ColumnIndex"), (0, .fieldref 8 29), (0, .nameAndType 30 31), (0, u "indexes"), (0, u "[Lcom/example/ontology_to_datalog/ontologytodatalog/datalog/Relation$ColumnIndex;"), (0, .fieldref 8 33), (0, .nameAndType 34 12), (0, u "size"), (2, u "givenEnd"), (0, .fieldref 8 39), (0, .nameAndType 40 12), (0, u "stableEnd"), (0, .fieldref 8 42), (0, .nameAndType 43 12), (0, u "deltaEnd"), (0, .fieldref 8 45), (0, .nameAndType 46 12), (0, u "certainEnd"), (6, .methodref 54 55), (0, .class_ 56), (0, .nameAndType 57 58), (0, u "java/lang/System"), (0, u "arraycopy"), (0, u "(Ljava/lang/Object;ILjava/lang/Object;II)V"), (12, .methodref 8 72), (0, .nameAndType 73 74), (0, u "slotOf"), (0, u "([I)I"), (6, u "add"), (1, .methodref 8 84), (0, .nameAndType 85 74), (0, u "hash"), (0, .methodref 8 87), (0, .nameAndType 88 89), (0, u "matches"), (0, u "(I[I)Z"), (6, .methodref 8 97), (0, .nameAndType 98 99), (0, u "spread"), (0, u "(I)I"), (0, .integer 2654435769), (0, u "(I)V"), (8, u "advance"), (0, u "hasDelta"), (0, u "()Z"), (2, u "markCertain"), (0, u "makeUncertainDelta"), (2, u "([I)Z")] 9

def k2c0 : Code := { maxStack := 4, maxLocals := 2, code := prog_20_method_1_code, exceptionTable := #[], attributes := #[] }
def k2m0 : Method := { name := "<init>", desc := "(I)V", sig := { parameters := [.int], returnType := none }, accessFlags := 0, code := some k2c0 }
def k2c1 : Code := { maxStack := 2, maxLocals := 1, code := prog_20_method_8_code, exceptionTable := #[], attributes := #[] }
def k2m1 : Method := { name := "advance", desc := "()V", sig := { parameters := [], returnType := none }, accessFlags := 0, code := some k2c1 }
def k2c2 : Code := { maxStack := 2, maxLocals := 1, code := prog_20_method_9_code, exceptionTable := #[], attributes := #[] }
def k2m2 : Method := { name := "hasDelta", desc := "()Z", sig := { parameters := [], returnType := some .boolean }, accessFlags := 0, code := some k2c2 }
def k2c3 : Code := { maxStack := 2, maxLocals := 1, code := prog_20_method_11_code, exceptionTable := #[], attributes := #[] }
def k2m3 : Method := { name := "markCertain", desc := "()V", sig := { parameters := [], returnType := none }, accessFlags := 0, code := some k2c3 }
def k2c4 : Code := { maxStack := 2, maxLocals := 1, code := prog_20_method_12_code, exceptionTable := #[], attributes := #[] }
def k2m4 : Method := { name := "makeUncertainDelta", desc := "()V", sig := { parameters := [], returnType := none }, accessFlags := 0, code := some k2c4 }
def k2c5 : Code := { maxStack := 5, maxLocals := 4, code := prog_20_method_15_code, exceptionTable := #[], attributes := #[] }
def k2m5 : Method := { name := "add", desc := "([I)Z", sig := { parameters := [(.array .int)], returnType := some .boolean }, accessFlags := 0, code := some k2c5 }
def k2c6 : Code := { maxStack := 3, maxLocals := 4, code := prog_20_method_17_code, exceptionTable := #[], attributes := #[] }
def k2m6 : Method := { name := "slotOf", desc := "([I)I", sig := { parameters := [(.array .int)], returnType := some .int }, accessFlags := 2, code := some k2c6 }
def k2c7 : Code := { maxStack := 3, maxLocals := 4, code := prog_20_method_19_code, exceptionTable := #[], attributes := #[] }
def k2m7 : Method := { name := "matches", desc := "(I[I)Z", sig := { parameters := [.int, (.array .int)], returnType := some .boolean }, accessFlags := 2, code := some k2c7 }
def k2c8 : Code := { maxStack := 2, maxLocals := 6, code := prog_20_method_21_code, exceptionTable := #[], attributes := #[] }
def k2m8 : Method := { name := "hash", desc := "([I)I", sig := { parameters := [(.array .int)], returnType := some .int }, accessFlags := 10, code := some k2c8 }
def k2c9 : Code := { maxStack := 3, maxLocals := 2, code := prog_20_method_22_code, exceptionTable := #[], attributes := #[] }
def k2m9 : Method := { name := "spread", desc := "(I)I", sig := { parameters := [.int], returnType := some .int }, accessFlags := 10, code := some k2c9 }
/-- com/example/ontology_to_datalog/ontologytodatalog/datalog/Relation -/
def k2 : Class := { plain "com/example/ontology_to_datalog/ontologytodatalog/datalog/Relation" (some 0) with
  accessFlags := 32
  interfaces := #[]
  cf := some (fileOf pool2 8 #[.nestMembers #[26]] #[{ accessFlags := 0, nameIndex := 5, descriptorIndex := 101, attributes := #[] }, { accessFlags := 0, nameIndex := 110, descriptorIndex := 6, attributes := #[] }, { accessFlags := 0, nameIndex := 111, descriptorIndex := 112, attributes := #[] }, { accessFlags := 0, nameIndex := 115, descriptorIndex := 6, attributes := #[] }, { accessFlags := 0, nameIndex := 116, descriptorIndex := 6, attributes := #[] }, { accessFlags := 0, nameIndex := 81, descriptorIndex := 119, attributes := #[] }, { accessFlags := 2, nameIndex := 73, descriptorIndex := 74, attributes := #[] }, { accessFlags := 2, nameIndex := 88, descriptorIndex := 89, attributes := #[] }, { accessFlags := 10, nameIndex := 85, descriptorIndex := 74, attributes := #[] }, { accessFlags := 10, nameIndex := 98, descriptorIndex := 99, attributes := #[] }] 32 2 #[] #[{ accessFlags := 18, nameIndex := 11, descriptorIndex := 12, attributes := #[] }, { accessFlags := 2, nameIndex := 21, descriptorIndex := 22, attributes := #[] }, { accessFlags := 2, nameIndex := 34, descriptorIndex := 12, attributes := #[] }, { accessFlags := 2, nameIndex := 25, descriptorIndex := 22, attributes := #[] }, { accessFlags := 18, nameIndex := 30, descriptorIndex := 31, attributes := #[] }, { accessFlags := 2, nameIndex := 37, descriptorIndex := 12, attributes := #[] }, { accessFlags := 2, nameIndex := 40, descriptorIndex := 12, attributes := #[] }, { accessFlags := 2, nameIndex := 43, descriptorIndex := 12, attributes := #[] }, { accessFlags := 2, nameIndex := 46, descriptorIndex := 12, attributes := #[] }])
  fields := #[{ name := "arity", type := .int, accessFlags := 18, slot := 0, constantValue := 0 }, { name := "values", type := (.array .int), accessFlags := 2, slot := 1, constantValue := 0 }, { name := "size", type := .int, accessFlags := 2, slot := 2, constantValue := 0 }, { name := "slots", type := (.array .int), accessFlags := 2, slot := 3, constantValue := 0 }, { name := "indexes", type := (.array (.object "com/example/ontology_to_datalog/ontologytodatalog/datalog/Relation$ColumnIndex")), accessFlags := 18, slot := 4, constantValue := 0 }, { name := "givenEnd", type := .int, accessFlags := 2, slot := 5, constantValue := 0 }, { name := "stableEnd", type := .int, accessFlags := 2, slot := 6, constantValue := 0 }, { name := "deltaEnd", type := .int, accessFlags := 2, slot := 7, constantValue := 0 }, { name := "certainEnd", type := .int, accessFlags := 2, slot := 8, constantValue := 0 }]
  methods := #[k2m0, k2m1, k2m2, k2m3, k2m4, k2m5, k2m6, k2m7, k2m8, k2m9]
  instanceTypes := #[.int, (.array .int), .int, (.array .int), (.array (.object "com/example/ontology_to_datalog/ontologytodatalog/datalog/Relation$ColumnIndex")), .int, .int, .int, .int]
  staticTypes := #[]
  resolved := Array.replicate 129 none
  statics := none }

def pool3 : Array CpInfo := pool [(1, .class_ 2), (0, u "java/lang/Math"), (1, .class_ 6), (1, u "java/lang/Object"), (0, u "<init>"), (0, u "()V"), (89, .class_ 100), (1, u "java/lang/Math$RandomNumberGeneratorHolder"), (71, u "negativeZeroFloatBits"), (0, u "J"), (2, u "negativeZeroDoubleBits"), (21, u "max"), (46, u "$assertionsDisabled"), (0, u "Z"), (88, u "(II)I"), (2, u "twoToTheDoubleScaleDown"), (0, u "D"), (4, u "twoToTheDoubleScaleUp"), (9, u "E"), (3, u "PI"), (2, u "TAU"), (2, u "DEGREES_TO_RADIANS"), (0, u "RADIANS_TO_DEGREES")] 94

def k3m0 : Method := { name := "<init>", desc := "()V", sig := { parameters := [], returnType := none }, accessFlags := 2, code := none }
def k3c1 : Code := { maxStack := 2, maxLocals := 2, code := jdk_29_method_65_code, exceptionTable := #[], attributes := #[] }
def k3m1 : Method := { name := "max", desc := "(II)I", sig := { parameters := [.int, .int], returnType := some .int }, accessFlags := 9, code := some k3c1 }
/-- java/lang/Math -/
def k3 : Class := { plain "java/lang/Math" (some 0) with
  accessFlags := 49
  interfaces := #[]
  cf := some (fileOf pool3 1 #[.nestMembers #[98]] #[{ accessFlags := 2, nameIndex := 7, descriptorIndex := 8, attributes := #[] }, { accessFlags := 9, nameIndex := 198, descriptorIndex := 335, attributes := #[] }] 49 4 #[] #[{ accessFlags := 25, nameIndex := 354, descriptorIndex := 339, attributes := #[] }, { accessFlags := 25, nameIndex := 358, descriptorIndex := 339, attributes := #[] }, { accessFlags := 25, nameIndex := 361, descriptorIndex := 339, attributes := #[] }, { accessFlags := 26, nameIndex := 364, descriptorIndex := 339, attributes := #[] }, { accessFlags := 26, nameIndex := 365, descriptorIndex := 339, attributes := #[] }, { accessFlags := 26, nameIndex := 172, descriptorIndex := 173, attributes := #[] }, { accessFlags := 26, nameIndex := 176, descriptorIndex := 173, attributes := #[] }, { accessFlags := 8, nameIndex := 344, descriptorIndex := 339, attributes := #[] }, { accessFlags := 8, nameIndex := 338, descriptorIndex := 339, attributes := #[] }, { accessFlags := 4120, nameIndex := 245, descriptorIndex := 246, attributes := #[] }])
  fields := #[{ name := "E", type := .double, accessFlags := 25, slot := 0, constantValue := 0 }, { name := "PI", type := .double, accessFlags := 25, slot := 1, constantValue := 0 }, { name := "TAU", type := .double, accessFlags := 25, slot := 2, constantValue := 0 }, { name := "DEGREES_TO_RADIANS", type := .double, accessFlags := 26, slot := 3, constantValue := 0 }, { name := "RADIANS_TO_DEGREES", type := .double, accessFlags := 26, slot := 4, constantValue := 0 }, { name := "negativeZeroFloatBits", type := .long, accessFlags := 26, slot := 5, constantValue := 0 }, { name := "negativeZeroDoubleBits", type := .long, accessFlags := 26, slot := 6, constantValue := 0 }, { name := "twoToTheDoubleScaleUp", type := .double, accessFlags := 8, slot := 7, constantValue := 0 }, { name := "twoToTheDoubleScaleDown", type := .double, accessFlags := 8, slot := 8, constantValue := 0 }, { name := "$assertionsDisabled", type := .boolean, accessFlags := 4120, slot := 9, constantValue := 0 }]
  methods := #[k3m0, k3m1]
  instanceTypes := #[]
  staticTypes := #[.double, .double, .double, .double, .double, .long, .long, .double, .double, .boolean]
  resolved := Array.replicate 460 none
  statics := none }

def pool4 : Array CpInfo := pool [(2, .class_ 4), (1, u "java/lang/Object"), (0, u "<init>"), (0, u "()V"), (1, .class_ 10), (1, u "com/example/ontology_to_datalog/ontologytodatalog/datalog/Relation$ColumnIndex"), (0, u "keys"), (0, u "[I"), (4, u "tuples"), (0, u "[Lcom/example/ontology_to_datalog/ontologytodatalog/datalog/IntList;"), (11, u "count"), (0, u "I"), (8, .class_ 42), (1, u "com/example/ontology_to_datalog/ontologytodatalog/datalog/Relation")] 14

def k4m0 : Method := { name := "<init>", desc := "()V", sig := { parameters := [], returnType := none }, accessFlags := 2, code := none }
/-- com/example/ontology_to_datalog/ontologytodatalog/datalog/Relation$ColumnIndex -/
def k4 : Class := { plain "com/example/ontology_to_datalog/ontologytodatalog/datalog/Relation$ColumnIndex" (some 0) with
  accessFlags := 32
  interfaces := #[]
  cf := some (fileOf pool4 8 #[.nestHost 40] #[{ accessFlags := 2, nameIndex := 5, descriptorIndex := 6, attributes := #[] }] 32 2 #[] #[{ accessFlags := 2, nameIndex := 11, descriptorIndex := 12, attributes := #[] }, { accessFlags := 2, nameIndex := 17, descriptorIndex := 18, attributes := #[] }, { accessFlags := 2, nameIndex := 30, descriptorIndex := 31, attributes := #[] }])
  fields := #[{ name := "keys", type := (.array .int), accessFlags := 2, slot := 0, constantValue := 0 }, { name := "tuples", type := (.array (.object "com/example/ontology_to_datalog/ontologytodatalog/datalog/IntList")), accessFlags := 2, slot := 1, constantValue := 0 }, { name := "count", type := .int, accessFlags := 2, slot := 2, constantValue := 0 }]
  methods := #[k4m0]
  instanceTypes := #[(.array .int), (.array (.object "com/example/ontology_to_datalog/ontologytodatalog/datalog/IntList")), .int]
  staticTypes := #[]
  resolved := Array.replicate 57 none
  statics := none }

def pool5 : Array CpInfo := pool [(2, .class_ 4), (1, u "java/lang/Object"), (0, u "<init>"), (0, u "()V"), (1, .class_ 10), (1, u "java/lang/System"), (0, u "allowSecurityManager"), (0, u "I"), (16, u "cons"), (0, u "Ljava/io/Console;"), (77, .class_ 110), (1, u "java/lang/System$CallersHolder"), (43, u "initialErrStream"), (0, u "Ljava/io/PrintStream;"), (19, u "security"), (0, u "Ljava/lang/SecurityManager;"), (31, .class_ 209), (0, u "java/lang/System$1"), (7, u "props"), (0, u "Ljava/util/Properties;"), (2, u "lineSeparator"), (0, u "Ljava/lang/String;"), (96, .class_ 321), (1, u "java/lang/System$LoggerFinder"), (5, .class_ 328), (0, u "java/lang/System$Logger"), (67, u "err"), (2, u "out"), (91, u "notSupportedJnuEncoding"), (15, u "in"), (17, u "initialIn"), (0, u "Ljava/io/InputStream;"), (35, u "bootLayer"), (0, u "Ljava/lang/ModuleLayer;"), (99, .class_ 664), (0, u "java/lang/System$2"), (9, u "NEVER"), (2, u "MAYBE"), (49, u "arraycopy"), (0, u "(Ljava/lang/Object;ILjava/lang/Object;II)V"), (72, .class_ 802), (0, u "java/lang/System$Logger$Level")] 31

def k5m0 : Method := { name := "<init>", desc := "()V", sig := { parameters := [], returnType := none }, accessFlags := 2, code := none }
def k5m1 : Method := { name := "arraycopy", desc := "(Ljava/lang/Object;ILjava/lang/Object;II)V", sig := { parameters := [(.object "java/lang/Object"), .int, (.object "java/lang/Object"), .int, .int], returnType := none }, accessFlags := 265, code := none }
/-- java/lang/System -/
def k5 : Class := { plain "java/lang/System" (some 0) with
  accessFlags := 49
  interfaces := #[]
  cf := some (fileOf pool5 8 #[.nestMembers #[319, 327, 801, 108, 663, 208]] #[{ accessFlags := 2, nameIndex := 5, descriptorIndex := 6, attributes := #[] }, { accessFlags := 265, nameIndex := 727, descriptorIndex := 728, attributes := #[] }] 49 2 #[] #[{ accessFlags := 25, nameIndex := 507, descriptorIndex := 526, attributes := #[] }, { accessFlags := 25, nameIndex := 399, descriptorIndex := 155, attributes := #[] }, { accessFlags := 25, nameIndex := 396, descriptorIndex := 155, attributes := #[] }, { accessFlags := 10, nameIndex := 525, descriptorIndex := 526, attributes := #[] }, { accessFlags := 26, nameIndex := 674, descriptorIndex := 12, attributes := #[] }, { accessFlags := 26, nameIndex := 677, descriptorIndex := 12, attributes := #[] }, { accessFlags := 10, nameIndex := 11, descriptorIndex := 12, attributes := #[] }, { accessFlags := 74, nameIndex := 175, descriptorIndex := 176, attributes := #[] }, { accessFlags := 10, nameIndex := 491, descriptorIndex := 222, attributes := #[] }, { accessFlags := 74, nameIndex := 29, descriptorIndex := 30, attributes := #[] }, { accessFlags := 74, nameIndex := 154, descriptorIndex := 155, attributes := #[] }, { accessFlags := 10, nameIndex := 217, descriptorIndex := 218, attributes := #[] }, { accessFlags := 10, nameIndex := 221, descriptorIndex := 222, attributes := #[] }, { accessFlags := 8, nameIndex := 562, descriptorIndex := 563, attributes := #[] }])
  fields := #[{ name := "in", type := (.object "java/io/InputStream"), accessFlags := 25, slot := 0, constantValue := 0 }, { name := "out", type := (.object "java/io/PrintStream"), accessFlags := 25, slot := 1, constantValue := 0 }, { name := "err", type := (.object "java/io/PrintStream"), accessFlags := 25, slot := 2, constantValue := 0 }, { name := "initialIn", type := (.object "java/io/InputStream"), accessFlags := 10, slot := 3, constantValue := 0 }, { name := "NEVER", type := .int, accessFlags := 26, slot := 4, constantValue := 0 }, { name := "MAYBE", type := .int, accessFlags := 26, slot := 5, constantValue := 0 }, { name := "allowSecurityManager", type := .int, accessFlags := 10, slot := 6, constantValue := 0 }, { name := "security", type := (.object "java/lang/SecurityManager"), accessFlags := 74, slot := 7, constantValue := 0 }, { name := "notSupportedJnuEncoding", type := (.object "java/lang/String"), accessFlags := 10, slot := 8, constantValue := 0 }, { name := "cons", type := (.object "java/io/Console"), accessFlags := 74, slot := 9, constantValue := 0 }, { name := "initialErrStream", type := (.object "java/io/PrintStream"), accessFlags := 74, slot := 10, constantValue := 0 }, { name := "props", type := (.object "java/util/Properties"), accessFlags := 10, slot := 11, constantValue := 0 }, { name := "lineSeparator", type := (.object "java/lang/String"), accessFlags := 10, slot := 12, constantValue := 0 }, { name := "bootLayer", type := (.object "java/lang/ModuleLayer"), accessFlags := 8, slot := 13, constantValue := 0 }]
  methods := #[k5m0, k5m1]
  instanceTypes := #[]
  staticTypes := #[(.object "java/io/InputStream"), (.object "java/io/PrintStream"), (.object "java/io/PrintStream"), (.object "java/io/InputStream"), .int, .int, .int, (.object "java/lang/SecurityManager"), (.object "java/lang/String"), (.object "java/io/Console"), (.object "java/io/PrintStream"), (.object "java/util/Properties"), (.object "java/lang/String"), (.object "java/lang/ModuleLayer")]
  resolved := Array.replicate 834 none
  statics := none }

def pool6 : Array CpInfo := pool [(1, u "java/lang/Cloneable"), (0, .class_ 1), (0, u "java/lang/Object"), (0, .class_ 3)] 3

/-- java/lang/Cloneable -/
def k6 : Class := { plain "java/lang/Cloneable" (some 0) with
  accessFlags := 1537
  interfaces := #[]
  cf := some (fileOf pool6 2 #[] #[] 1537 4 #[] #[])
  fields := #[]
  methods := #[]
  instanceTypes := #[]
  staticTypes := #[]
  resolved := Array.replicate 8 none
  statics := none }

def pool7 : Array CpInfo := pool [(1, u "java/io/Serializable"), (0, .class_ 1), (0, u "java/lang/Object"), (0, .class_ 3)] 3

/-- java/io/Serializable -/
def k7 : Class := { plain "java/io/Serializable" (some 0) with
  accessFlags := 1537
  interfaces := #[]
  cf := some (fileOf pool7 2 #[] #[] 1537 4 #[] #[])
  fields := #[]
  methods := #[]
  instanceTypes := #[]
  staticTypes := #[]
  resolved := Array.replicate 8 none
  statics := none }

/-- the primitive byte -/
def k8 : Class := { plain "byte" none with kind := .primitive 'B', accessFlags := 0x411 }
/-- [B -/
def k9 : Class := { plain "[B" (some 0) with kind := .array 8 .byte, interfaces := #[6, 7], accessFlags := 1041 }

/-- the primitive int -/
def k10 : Class := { plain "int" none with kind := .primitive 'I', accessFlags := 0x411 }
/-- [I -/
def k11 : Class := { plain "[I" (some 0) with kind := .array 10 .int, interfaces := #[6, 7], accessFlags := 1041 }

/-- [Lcom/example/ontology_to_datalog/ontologytodatalog/datalog/Relation$ColumnIndex; -/
def k12 : Class := { plain "[Lcom/example/ontology_to_datalog/ontologytodatalog/datalog/Relation$ColumnIndex;" (some 0) with kind := .array 4 (.object "com/example/ontology_to_datalog/ontologytodatalog/datalog/Relation$ColumnIndex"), interfaces := #[6, 7], accessFlags := 1041 }

def heap : Heap := #[]
def classes : Array Class := #[k0, k1, k2, k3, k4, k5, k6, k7, k8, k9, k10, k11, k12]
def interned : List (Array UInt16 × Addr) := []
def slotsUsed : Nat := 0
def theMethod : MethodId := ⟨1, 1⟩
def args0 : Array Value := #[.int 70, .int 3, .int 5]
def aboutOver (below : List Frame) : State where
  vm := { classes := classes, interned := interned.toArray }
  heap := heap
  slotsUsed := slotsUsed
  threads := #[{ frames := .invoking theMethod args0 :: below }]
def below0 : List Frame := [.native { method := ⟨0, 0⟩, args := #[] }]
def about1 : State := aboutOver below0
def p0 : Program := .bare "" "" ""
def e0 : Env := launch0.env 0 0 0
theorem w_frames : about1.frames = Frame.invoking theMethod args0 :: below0 := rfl
set_option maxRecDepth 65536 in
theorem w_args : argsFit about1.vm theMethod args0 = true := by decide +kernel
set_option maxRecDepth 65536 in
theorem w_heap : heapFits about1 = true := by decide +kernel
set_option maxRecDepth 65536 in
theorem w_runnable : about1.curStatus? = some .runnable := by decide +kernel
set_option maxRecDepth 65536 in
theorem w_alone : about1.alone = true := by decide +kernel
set_option maxRecDepth 65536 in
theorem w_named : about1.methodNamed? x = some theMethod := by decide +kernel
set_option maxRecDepth 65536 in
theorem w_hears : about1.hears theMethod below0 = true := by decide +kernel
set_option maxRecDepth 65536 in
theorem w_ripe : about1.ripe theMethod args0 below0 = true := by decide +kernel
theorem w_running : about1.status = .running := rfl
set_option maxRecDepth 65536 in
theorem w_room : about1.hasRoom e0.platform room_1 = true :=
  launch0.hasRoom_least _ room_1 (by decide +kernel) (by decide +kernel) (by decide +kernel) (by decide +kernel) (by decide +kernel) (by decide +kernel)
theorem allAtoms_all (ts : List Jvm.Cond) (a : Array Jvm.Value) (st : Jvm.State) : (allAtoms ts).before a st = ts.all (fun c => c.before a st) := by
  induction ts with
  | nil => rfl
  | cons c t ih =>
    show (Jvm.Cond.and c (allAtoms t)).before a st = _
    rw [Jvm.Cond.before_and, ih, List.all_cons]
def words1 : List Jvm.Cond := Jvm.Cond.code x code maxLocals ret :: tables_1
/-- a 'code' word, met by the world's own term for the bytes: nothing is compared byte by byte -/
theorem code_word {y : MethodName} {bytes : ByteArray} {mx : Nat} {rt : Option FieldType} {a : Array Value} {s : State} {m : MethodId} {meth : Method} {c : Code} (h1 : s.methodNamed? y = some m) (h2 : s.vm.method? m = some meth) (h3 : meth.code = some c) (h4 : c.code = bytes)
    (h5 : (c.maxLocals == mx && c.exceptionTable.isEmpty && decide (c.maxStack ≤ mostOperands) && decide (meth.sig.returnType = rt) && !meth.locks && decide (parseMethodDescriptor y.desc = some meth.sig)) = true) : (Jvm.Cond.code y bytes mx rt).before a s = true := by
  simp only [Bool.and_eq_true, beq_iff_eq, Bool.not_eq_true', decide_eq_true_eq] at h5
  obtain ⟨⟨⟨⟨⟨g1, g2⟩, g3⟩, g4⟩, g5⟩, g6⟩ := h5
  simp [Cond.before, Cond.holds, Cond.value, h1, h2, h3, h4, g1, g2, g3, g4, g5, g6]
def isCode : Jvm.Cond → Bool
  | .code _ _ _ _ => true
  | _ => false
theorem all_split {L : List Jvm.Cond} {P : Jvm.Cond → Bool} (h1 : L.all (fun c => isCode c || P c) = true) (h2 : ∀ c ∈ L.filter isCode, P c = true) : L.all P = true := by
  refine List.all_eq_true.mpr fun c hc => ?_
  have h := List.all_eq_true.mp h1 c hc
  rcases Bool.eq_false_or_eq_true (isCode c) with hi | hi
  · exact h2 c (List.mem_filter.mpr ⟨hc, hi⟩)
  · simpa [hi] using h
set_option maxRecDepth 65536 in
theorem w_c0 : (Jvm.Cond.code x code maxLocals ret).before args0 about1 = true := code_word (m := ⟨1, 1⟩) (meth := k1m1) (c := k1c1) (by decide +kernel) rfl rfl rfl (by decide +kernel)
set_option maxRecDepth 65536 in
theorem w_c1 : (Jvm.Cond.code ({ cls := "com/example/ontology_to_datalog/ontologytodatalog/datalog/Relation", name := "<init>", desc := "(I)V" } : Jvm.MethodName) prog_20_method_1_code (2 : Nat) (Option.none : Option Jvm.ClassFile.FieldType)).before args0 about1 = true := code_word (m := ⟨2, 0⟩) (meth := k2m0) (c := k2c0) (by decide +kernel) rfl rfl rfl (by decide +kernel)
set_option maxRecDepth 65536 in
theorem w_c2 : (Jvm.Cond.code ({ cls := "java/lang/Object", name := "<init>", desc := "()V" } : Jvm.MethodName) object_method_1_code (1 : Nat) (Option.none : Option Jvm.ClassFile.FieldType)).before args0 about1 = true := code_word (m := ⟨0, 0⟩) (meth := k0m0) (c := k0c0) (by decide +kernel) rfl rfl rfl (by decide +kernel)
set_option maxRecDepth 65536 in
theorem w_c3 : (Jvm.Cond.code ({ cls := "java/lang/Math", name := "max", desc := "(II)I" } : Jvm.MethodName) jdk_29_method_65_code (2 : Nat) (Option.some Jvm.ClassFile.FieldType.int)).before args0 about1 = true := code_word (m := ⟨3, 1⟩) (meth := k3m1) (c := k3c1) (by decide +kernel) rfl rfl rfl (by decide +kernel)
set_option maxRecDepth 65536 in
theorem w_c4 : (Jvm.Cond.code ({ cls := "com/example/ontology_to_datalog/ontologytodatalog/datalog/Relation", name := "hasDelta", desc := "()Z" } : Jvm.MethodName) prog_20_method_9_code (1 : Nat) (Option.some Jvm.ClassFile.FieldType.boolean)).before args0 about1 = true := code_word (m := ⟨2, 2⟩) (meth := k2m2) (c := k2c2) (by decide +kernel) rfl rfl rfl (by decide +kernel)
set_option maxRecDepth 65536 in
theorem w_c5 : (Jvm.Cond.code ({ cls := "com/example/ontology_to_datalog/ontologytodatalog/datalog/Relation", name := "markCertain", desc := "()V" } : Jvm.MethodName) prog_20_method_11_code (1 : Nat) (Option.none : Option Jvm.ClassFile.FieldType)).before args0 about1 = true := code_word (m := ⟨2, 3⟩) (meth := k2m3) (c := k2c3) (by decide +kernel) rfl rfl rfl (by decide +kernel)
set_option maxRecDepth 65536 in
theorem w_c6 : (Jvm.Cond.code ({ cls := "com/example/ontology_to_datalog/ontologytodatalog/datalog/Relation", name := "makeUncertainDelta", desc := "()V" } : Jvm.MethodName) prog_20_method_12_code (1 : Nat) (Option.none : Option Jvm.ClassFile.FieldType)).before args0 about1 = true := code_word (m := ⟨2, 4⟩) (meth := k2m4) (c := k2c4) (by decide +kernel) rfl rfl rfl (by decide +kernel)
set_option maxRecDepth 65536 in
theorem w_c7 : (Jvm.Cond.code ({ cls := "com/example/ontology_to_datalog/ontologytodatalog/datalog/Relation", name := "add", desc := "([I)Z" } : Jvm.MethodName) prog_20_method_15_code (4 : Nat) (Option.some Jvm.ClassFile.FieldType.boolean)).before args0 about1 = true := code_word (m := ⟨2, 5⟩) (meth := k2m5) (c := k2c5) (by decide +kernel) rfl rfl rfl (by decide +kernel)
set_option maxRecDepth 65536 in
theorem w_c8 : (Jvm.Cond.code ({ cls := "com/example/ontology_to_datalog/ontologytodatalog/datalog/Relation", name := "slotOf", desc := "([I)I" } : Jvm.MethodName) prog_20_method_17_code (4 : Nat) (Option.some Jvm.ClassFile.FieldType.int)).before args0 about1 = true := code_word (m := ⟨2, 6⟩) (meth := k2m6) (c := k2c6) (by decide +kernel) rfl rfl rfl (by decide +kernel)
set_option maxRecDepth 65536 in
theorem w_c9 : (Jvm.Cond.code ({ cls := "com/example/ontology_to_datalog/ontologytodatalog/datalog/Relation", name := "hash", desc := "([I)I" } : Jvm.MethodName) prog_20_method_21_code (6 : Nat) (Option.some Jvm.ClassFile.FieldType.int)).before args0 about1 = true := code_word (m := ⟨2, 8⟩) (meth := k2m8) (c := k2c8) (by decide +kernel) rfl rfl rfl (by decide +kernel)
set_option maxRecDepth 65536 in
theorem w_c10 : (Jvm.Cond.code ({ cls := "com/example/ontology_to_datalog/ontologytodatalog/datalog/Relation", name := "spread", desc := "(I)I" } : Jvm.MethodName) prog_20_method_22_code (2 : Nat) (Option.some Jvm.ClassFile.FieldType.int)).before args0 about1 = true := code_word (m := ⟨2, 9⟩) (meth := k2m9) (c := k2c9) (by decide +kernel) rfl rfl rfl (by decide +kernel)
set_option maxRecDepth 65536 in
theorem w_c11 : (Jvm.Cond.code ({ cls := "com/example/ontology_to_datalog/ontologytodatalog/datalog/Relation", name := "matches", desc := "(I[I)Z" } : Jvm.MethodName) prog_20_method_19_code (4 : Nat) (Option.some Jvm.ClassFile.FieldType.boolean)).before args0 about1 = true := code_word (m := ⟨2, 7⟩) (meth := k2m7) (c := k2c7) (by decide +kernel) rfl rfl rfl (by decide +kernel)
set_option maxRecDepth 65536 in
theorem w_c12 : (Jvm.Cond.code ({ cls := "com/example/ontology_to_datalog/ontologytodatalog/datalog/Relation", name := "advance", desc := "()V" } : Jvm.MethodName) prog_20_method_8_code (1 : Nat) (Option.none : Option Jvm.ClassFile.FieldType)).before args0 about1 = true := code_word (m := ⟨2, 1⟩) (meth := k2m1) (c := k2c1) (by decide +kernel) rfl rfl rfl (by decide +kernel)
def codes1 : List Jvm.Cond := [Jvm.Cond.code x code maxLocals ret, Jvm.Cond.code ({ cls := "com/example/ontology_to_datalog/ontologytodatalog/datalog/Relation", name := "<init>", desc := "(I)V" } : Jvm.MethodName) prog_20_method_1_code (2 : Nat) (Option.none : Option Jvm.ClassFile.FieldType), Jvm.Cond.code ({ cls := "java/lang/Object", name := "<init>", desc := "()V" } : Jvm.MethodName) object_method_1_code (1 : Nat) (Option.none : Option Jvm.ClassFile.FieldType), Jvm.Cond.code ({ cls := "java/lang/Math", name := "max", desc := "(II)I" } : Jvm.MethodName) jdk_29_method_65_code (2 : Nat) (Option.some Jvm.ClassFile.FieldType.int), Jvm.Cond.code ({ cls := "com/example/ontology_to_datalog/ontologytodatalog/datalog/Relation", name := "hasDelta", desc := "()Z" } : Jvm.MethodName) prog_20_method_9_code (1 : Nat) (Option.some Jvm.ClassFile.FieldType.boolean), Jvm.Cond.code ({ cls := "com/example/ontology_to_datalog/ontologytodatalog/datalog/Relation", name := "markCertain", desc := "()V" } : Jvm.MethodName) prog_20_method_11_code (1 : Nat) (Option.none : Option Jvm.ClassFile.FieldType), Jvm.Cond.code ({ cls := "com/example/ontology_to_datalog/ontologytodatalog/datalog/Relation", name := "makeUncertainDelta", desc := "()V" } : Jvm.MethodName) prog_20_method_12_code (1 : Nat) (Option.none : Option Jvm.ClassFile.FieldType), Jvm.Cond.code ({ cls := "com/example/ontology_to_datalog/ontologytodatalog/datalog/Relation", name := "add", desc := "([I)Z" } : Jvm.MethodName) prog_20_method_15_code (4 : Nat) (Option.some Jvm.ClassFile.FieldType.boolean), Jvm.Cond.code ({ cls := "com/example/ontology_to_datalog/ontologytodatalog/datalog/Relation", name := "slotOf", desc := "([I)I" } : Jvm.MethodName) prog_20_method_17_code (4 : Nat) (Option.some Jvm.ClassFile.FieldType.int), Jvm.Cond.code ({ cls := "com/example/ontology_to_datalog/ontologytodatalog/datalog/Relation", name := "hash", desc := "([I)I" } : Jvm.MethodName) prog_20_method_21_code (6 : Nat) (Option.some Jvm.ClassFile.FieldType.int), Jvm.Cond.code ({ cls := "com/example/ontology_to_datalog/ontologytodatalog/datalog/Relation", name := "spread", desc := "(I)I" } : Jvm.MethodName) prog_20_method_22_code (2 : Nat) (Option.some Jvm.ClassFile.FieldType.int), Jvm.Cond.code ({ cls := "com/example/ontology_to_datalog/ontologytodatalog/datalog/Relation", name := "matches", desc := "(I[I)Z" } : Jvm.MethodName) prog_20_method_19_code (4 : Nat) (Option.some Jvm.ClassFile.FieldType.boolean), Jvm.Cond.code ({ cls := "com/example/ontology_to_datalog/ontologytodatalog/datalog/Relation", name := "advance", desc := "()V" } : Jvm.MethodName) prog_20_method_8_code (1 : Nat) (Option.none : Option Jvm.ClassFile.FieldType)]
set_option maxRecDepth 65536 in
theorem codes_eq : words1.filter isCode = codes1 := rfl
theorem w_codes : ∀ c ∈ words1.filter isCode, c.before args0 about1 = true := by
  rw [codes_eq]
  intro c hc
  simp only [codes1, List.mem_cons, List.not_mem_nil, or_false] at hc
  rcases hc with rfl | rfl | rfl | rfl | rfl | rfl | rfl | rfl | rfl | rfl | rfl | rfl | rfl
  · exact w_c0
  · exact w_c1
  · exact w_c2
  · exact w_c3
  · exact w_c4
  · exact w_c5
  · exact w_c6
  · exact w_c7
  · exact w_c8
  · exact w_c9
  · exact w_c10
  · exact w_c11
  · exact w_c12
set_option maxRecDepth 65536 in
theorem w_t1 : (words1.take 24).all (fun c => isCode c || c.before args0 about1) = true := by decide +kernel
set_option maxRecDepth 65536 in
theorem w_t2 : ((words1.drop 24).take 24).all (fun c => isCode c || c.before args0 about1) = true := by decide +kernel
set_option maxRecDepth 65536 in
theorem w_t3 : (((words1.drop 24).drop 24).take 24).all (fun c => isCode c || c.before args0 about1) = true := by decide +kernel
set_option maxRecDepth 65536 in
theorem w_t4 : (((words1.drop 24).drop 24).drop 24).all (fun c => isCode c || c.before args0 about1) = true := by decide +kernel
theorem w_tables : (allAtoms (Jvm.Cond.code x code maxLocals ret :: tables_1)).before args0 about1 = true := by
  rw [allAtoms_all]
  show words1.all (fun c => c.before args0 about1) = true
  refine all_split ?_ w_codes
  rw [← List.take_append_drop 24 words1, List.all_append, w_t1, ← List.take_append_drop 24 (words1.drop 24), List.all_append, w_t2, ← List.take_append_drop 24 ((words1.drop 24).drop 24), List.all_append, w_t3, w_t4]
  rfl
set_option maxRecDepth 65536 in
theorem w_case : (Jvm.Cond.and given_1 narrow_1).before args0 about1 = true := by decide +kernel
theorem w_applies : (headSpec (Jvm.Cond.code x code maxLocals ret :: tables_1) room_1).applies x e0.platform about1 = true :=
  (Spec.applies_iff w_frames).mpr ⟨w_running, w_runnable, w_alone, w_named, w_hears, w_ripe, w_room, w_tables⟩
theorem atStart : AtStart classFile x code maxLocals ret World_1 tables_1 room_1 Calls_1 rest_1 Pre_1 launch0 p0 e0 about1 theMethod args0 below0 :=
  ⟨lists_1, trivial, launch0.admits_env _ _ _, launch0.least_env, fairChoices_fair.cas, fairChoices_fair.clock, w_frames, w_args, w_heap, w_applies, trivial, trivial, w_case⟩
end start1
theorem witness_1 : WitnessClaimed_1 := ⟨start1.p0, start1.e0, start1.about1, start1.theMethod, start1.args0, start1.below0, start1.atStart⟩
end Jvm.Pilot.@@N@@
