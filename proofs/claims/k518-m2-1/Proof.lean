import JvmDerived
import JvmDerived.Pilot.@@N@@Statement
import JvmDerived.Pilot.@@N@@Code
set_option linter.unusedVariables false
set_option linter.unusedSimpArgs false
set_option maxHeartbeats 4000000
namespace Jvm.Pilot.@@N@@
open Jvm Jvm.ClassFile Sem Op Lib Jvm.Free Jvm.Stand Jvm.LawKit Jvm.RoadKit Bundle Jvm.Pilot.@@N@@.Jvm.D
/-! LAYER: an abstract walk over own objects (printed by wip/layer/mklayer.py) -/
abbrev oC : Type := (Nat × List Value) ⊕ (FieldType × List Value)
abbrev oH : Type := List oC
abbrev oK : Type := Nat → String × List (String × String × String)
abbrev oS : Type := Nat × List Slot × List Value × oH × Nat × Nat
/-- where the own objects lie, and others (written as return addresses, which no code here has) -/
abbrev oM : Type := (Nat → Nat) × (Nat → Nat)
def ov (ρ : oM) : Value → Value
  | .ref k => .ref (ρ.1 k)
  | .retAddr k => .ref (ρ.2 k)
  | v => v
def osl (ρ : oM) : Slot → Slot
  | .val v => .val (ov ρ v)
  | x => x
theorem ov_cat (ρ : oM) (v : Value) : (ov ρ v).category = v.category := by cases v <;> rfl
theorem ov_dflt (ρ : oM) (t : FieldType) : ov ρ (defaultValue t) = defaultValue t := by cases t <;> rfl
/-- what an own cell is, in the heap -/
def oR (Z : State) (K : oK) (ρ : oM) (h : Heap) (a : Addr) (c : oC) : Prop := match c with
  | .inl o => Exa Z h a (K o.1).1 ∧ ∀ (i : Nat) (f : String × String × String) (v : Value), (K o.1).2[i]? = some f → o.2[i]? = some v → Fld Z h a f.1 f.2.1 f.2.2 (ov ρ v)
  | .inr q => (q.2.length < 2 ^ 31 ∧ ∀ w ∈ q.2, fits q.1 (ov ρ w) = true) ∧ ∃ cl : Cell, Arr Z h a cl q.1 ∧ cl.slots = (q.2.map (ov ρ)).toArray
def oRep (Z : State) (K : oK) (ρ : oM) (h : Heap) (A : oH) : Prop := (h.size = ρ.1 A.length ∧ (∀ k, A.length ≤ k → ρ.1 (k + 1) = ρ.1 k + 1) ∧ ∀ j k, j < k → ρ.1 j < ρ.1 k) ∧ ∀ (k : Nat) (c : oC), A[k]? = some c → oR Z K ρ h (ρ.1 k) c
theorem oR.ext {Z : State} {K : oK} {ρ : oM} {h h' : Heap} {a : Addr} {c : oC} (E : Ext h h') (H : oR Z K ρ h a c) : oR Z K ρ h' a c := by
  rcases c with o | q
  · exact ⟨H.1.ext E, fun i f v h1 h2 => (H.2 i f v h1 h2).ext E⟩
  · obtain ⟨h1, cl, h2, h3⟩ := H
    exact ⟨h1, cl, h2.ext E, h3⟩
theorem oR.other {Z : State} {K : oK} {ρ : oM} {h h' : Heap} {a b : Addr} {sl : Nat} {v : Value} {c : oC} (W : Wr h h' a sl v) (hne : b ≠ a) (H : oR Z K ρ h b c) : oR Z K ρ h' b c := by
  rcases c with o | q
  · exact ⟨H.1.wr W, fun i f w h1 h2 => (H.2 i f w h1 h2).other W (Or.inl hne)⟩
  · obtain ⟨h1, cl, h2, h3⟩ := H
    exact ⟨h1, cl, h2.other W hne, h3⟩
theorem oRep.ne {Z : State} {K : oK} {ρ : oM} {h : Heap} {A : oH} (H : oRep Z K ρ h A) {j k : Nat} (q : j ≠ k) : ρ.1 j ≠ ρ.1 k := by
  rcases Nat.lt_or_gt_of_ne q with q | q
  · exact Nat.ne_of_lt (H.1.2.2 _ _ q)
  · exact Nat.ne_of_gt (H.1.2.2 _ _ q)
theorem oRep.ge {Z : State} {K : oK} {ρ : oM} {h : Heap} {A : oH} (H : oRep Z K ρ h A) (k : Nat) : ρ.1 0 ≤ ρ.1 k := by
  rcases Nat.eq_zero_or_pos k with q | q
  · rw [q]; exact Nat.le_refl _
  · exact Nat.le_of_lt (H.1.2.2 _ _ q)
theorem oRep.push {Z : State} {K : oK} {ρ : oM} {h h' : Heap} {A : oH} {c : oC} (H : oRep Z K ρ h A) (E : Ext h h') (hs : h'.size = h.size + 1) (hc : oR Z K ρ h' h.size c) : oRep Z K ρ h' (A ++ [c]) := by
  refine ⟨⟨by rw [hs, H.1.1, List.length_append]; exact (H.1.2.1 _ (Nat.le_refl _)).symm, fun k hk => H.1.2.1 k (by rw [List.length_append] at hk; omega), H.1.2.2⟩, fun k d hd => ?_⟩
  rcases Nat.lt_trichotomy k A.length with q | q | q
  · rw [List.getElem?_append_left q] at hd
    exact (H.2 k d hd).ext E
  · subst q
    simp at hd
    subst hd
    rw [← H.1.1]; exact hc
  · rw [List.getElem?_eq_none (by simp; omega)] at hd; cases hd
theorem oRep.wr {Z : State} {K : oK} {ρ : oM} {h h' : Heap} {A : oH} {c : oC} {k sl : Nat} {v : Value} (H : oRep Z K ρ h A) (W : Wr h h' (ρ.1 k) sl v) (hc : oR Z K ρ h' (ρ.1 k) c) : oRep Z K ρ h' (A.set k c) := by
  refine ⟨⟨by rw [W.size, H.1.1, List.length_set], by rw [List.length_set]; exact H.1.2.1, H.1.2.2⟩, fun j d hd => ?_⟩
  by_cases q : j = k
  · subst q
    by_cases hj : j < A.length
    · rw [List.getElem?_set_self hj] at hd; cases hd; exact hc
    · rw [List.getElem?_eq_none (by simp; omega)] at hd; cases hd
  · rw [List.getElem?_set_ne (Ne.symm q)] at hd
    exact (H.2 j d hd).other W (H.ne q)
/-- the fields that a class lays, with their words -/
def oLaid (Z : State) (a0 : Array Value) (C : String) : List (String × String × String) → Prop
  | [] => True
  | f :: fs => (Laid Z a0 C f.1 f.2.1 f.2.2 ∧ ∃ t, parseFieldDescriptor f.2.2 = some t) ∧ oLaid Z a0 C fs
theorem oLaid.at {Z : State} {a0 : Array Value} {C : String} : ∀ {fs : List (String × String × String)}, oLaid Z a0 C fs → ∀ (i : Nat) (f : String × String × String), fs[i]? = some f → Laid Z a0 C f.1 f.2.1 f.2.2 ∧ ∃ t, parseFieldDescriptor f.2.2 = some t
  | [], _, i, f, h => by simp at h
  | g :: gs, H, 0, f, h => by simp at h; subst h; exact H.1
  | g :: gs, H, i + 1, f, h => oLaid.at H.2 i f (by simpa using h)
def oDistinct (fs : List (String × String × String)) : Prop := ∀ (i j : Nat) (f g : String × String × String), fs[i]? = some f → fs[j]? = some g → i ≠ j → f.2.1 ≠ g.2.1
theorem oDistinct.of {fs : List (String × String × String)} (h : (fs.map fun f => f.2.1).Nodup) : oDistinct fs := fun i j f g hi hj hne e => by
  have h1 : (fs.map fun f => f.2.1)[i]? = some f.2.1 := by simp [hi]
  have h2 : (fs.map fun f => f.2.1)[j]? = some g.2.1 := by simp [hj]
  obtain ⟨q1, e1⟩ := List.getElem?_eq_some_iff.mp h1
  obtain ⟨q2, e2⟩ := List.getElem?_eq_some_iff.mp h2
  have hp := List.pairwise_iff_getElem.mp h
  rcases Nat.lt_or_gt_of_ne hne with q | q
  · exact hp i j q1 q2 q (by rw [e1, e2, e])
  · exact hp j i q2 q1 q (by rw [e1, e2, e])
def oKOk (Z : State) (a0 : Array Value) (K : oK) (cid : Nat) : Prop := oLaid Z a0 (K cid).1 (K cid).2 ∧ oDistinct (K cid).2
def oDflt : List (String × String × String) → List Value → Prop
  | [], [] => True
  | f :: fs, v :: vs => (∃ t, parseFieldDescriptor f.2.2 = some t ∧ v = defaultValue t) ∧ oDflt fs vs
  | _, _ => False
theorem oDflt.at : ∀ {fs : List (String × String × String)} {vs : List Value}, oDflt fs vs → ∀ (i : Nat) (f : String × String × String) (v : Value), fs[i]? = some f → vs[i]? = some v → ∃ t, parseFieldDescriptor f.2.2 = some t ∧ v = defaultValue t
  | [], [], _, i, f, v, h, _ => by simp at h
  | [], w :: ws, H, _, _, _, _, _ => H.elim
  | g :: gs, [], H, _, _, _, _, _ => H.elim
  | g :: gs, w :: ws, H, 0, f, v, h, h' => by simp at h h'; subst h h'; exact H.1
  | g :: gs, w :: ws, H, i + 1, f, v, h, h' => oDflt.at H.2 i f v (by simpa using h) (by simpa using h')
/-! the local variables -/
def oAt (L : List Slot) (i : Nat) (x : Slot) : Option (List Slot) := if i < L.length then some (L.set i x) else none
def oSelf (L : List Slot) (i : Nat) (v : Value) : Option (List Slot) :=
  (oAt L i (.val v)).bind fun L =>
  if v.category = 2 then
    (L[i + 1]?).bind fun x => match x with
      | .val old => if old.category = 2 then (oAt L (i + 2) .unset).bind fun L => oAt L (i + 1) .second else oAt L (i + 1) .second
      | .unset => oAt L (i + 1) .second
      | .second => oAt L (i + 1) .second
  else some L
def oSt (L : List Slot) (i : Nat) (v : Value) : Option (List Slot) :=
  (L[i]?).bind fun x => match x with
    | .second => (oAt L (i - 1) .unset).bind fun L => oSelf L i v
    | .val old => if old.category = 2 then (oAt L (i + 1) .unset).bind fun L => oSelf L i v else oSelf L i v
    | .unset => oSelf L i v
theorem oget {ρ : oM} {L : List Slot} {k : Nat} {x : Slot} (h : L[k]? = some x) : (L.map (osl ρ)).toArray[k]? = some (osl ρ x) := by simp [h]
theorem oAt_ok {ρ : oM} {L L' : List Slot} {i : Nat} {x : Slot} (h : oAt L i x = some L') : setAt (L.map (osl ρ)).toArray i (osl ρ x) = some (L'.map (osl ρ)).toArray ∧ L'.length = L.length := by
  unfold oAt at h
  split at h
  · rename_i hi
    cases h
    refine ⟨?_, by simp⟩
    have hi' : i < (L.map (osl ρ)).toArray.size := by simpa using hi
    have e : setAt (L.map (osl ρ)).toArray i (osl ρ x) = some ((L.map (osl ρ)).toArray.setIfInBounds i (osl ρ x)) := if_pos hi'
    rw [e]; simp
  · cases h
theorem oSelf_eq {l : Array Slot} {i : Nat} {v : Value} : storeSelf l i v = ((setAt l i (.val v)).bind fun l => if v.category = 2 then (l[i + 1]?).bind fun x => match x with
      | .val old => if old.category = 2 then (setAt l (i + 2) .unset).bind fun l => setAt l (i + 1) .second else setAt l (i + 1) .second
      | .unset => setAt l (i + 1) .second
      | .second => setAt l (i + 1) .second
  else some l) := by
  show (setAt l i (.val v)).bind _ = _
  cases setAt l i (.val v) with
  | none => rfl
  | some l =>
    show (if v.category = 2 then _ else _) = (if v.category = 2 then _ else _)
    split
    · show (l[i + 1]?).bind _ = (l[i + 1]?).bind _
      cases l[i + 1]? with
      | none => rfl
      | some x => cases x <;> rfl
    · rfl
theorem oSelf_ok {ρ : oM} {L L' : List Slot} {i : Nat} {v : Value} (h : oSelf L i v = some L') : storeSelf (L.map (osl ρ)).toArray i (ov ρ v) = some (L'.map (osl ρ)).toArray ∧ L'.length = L.length := by
  rw [oSelf_eq]
  unfold oSelf at h
  obtain ⟨L1, h1, h⟩ := Option.bind_eq_some_iff.mp h
  have q1 := oAt_ok (ρ := ρ) h1
  have q1' : setAt (L.map (osl ρ)).toArray i (.val (ov ρ v)) = some (L1.map (osl ρ)).toArray := q1.1
  rw [q1', ov_cat]
  show (if v.category = 2 then _ else _) = _ ∧ _
  split at h
  · rename_i hc
    rw [if_pos hc]
    obtain ⟨x, h2, h⟩ := Option.bind_eq_some_iff.mp h
    rw [oget h2]
    cases x with
    | unset => have q := oAt_ok (ρ := ρ) h; exact ⟨q.1, q.2.trans q1.2⟩
    | second => have q := oAt_ok (ρ := ρ) h; exact ⟨q.1, q.2.trans q1.2⟩
    | val old =>
      show (if (ov ρ old).category = 2 then _ else _) = _ ∧ _
      rw [ov_cat]
      dsimp only at h
      split at h
      · rename_i hc2
        rw [if_pos hc2]
        obtain ⟨L2, h3, h⟩ := Option.bind_eq_some_iff.mp h
        have q2 := oAt_ok (ρ := ρ) h3
        have q2' : setAt (L1.map (osl ρ)).toArray (i + 2) .unset = some (L2.map (osl ρ)).toArray := q2.1
        rw [q2']
        have q := oAt_ok (ρ := ρ) h
        exact ⟨q.1, (q.2.trans q2.2).trans q1.2⟩
      · rename_i hc2
        rw [if_neg hc2]
        have q := oAt_ok (ρ := ρ) h
        exact ⟨q.1, q.2.trans q1.2⟩
  · rename_i hc
    rw [if_neg hc]
    cases h
    exact ⟨rfl, q1.2⟩
theorem oSt_eq {l : Array Slot} {i : Nat} {v : Value} : storeLocals l i v = ((l[i]?).bind fun x => match x with
    | .second => (setAt l (i - 1) .unset).bind fun l => storeSelf l i v
    | .val old => if old.category = 2 then (setAt l (i + 1) .unset).bind fun l => storeSelf l i v else storeSelf l i v
    | .unset => storeSelf l i v) := by
  show (l[i]?).bind _ = (l[i]?).bind _
  cases l[i]? with
  | none => rfl
  | some x => cases x <;> rfl
theorem oSt_ok {ρ : oM} {L L' : List Slot} {i : Nat} {v : Value} (h : oSt L i v = some L') : storeLocals (L.map (osl ρ)).toArray i (ov ρ v) = some (L'.map (osl ρ)).toArray ∧ L'.length = L.length := by
  rw [oSt_eq]
  unfold oSt at h
  obtain ⟨x, h1, h⟩ := Option.bind_eq_some_iff.mp h
  rw [oget h1]
  cases x with
  | unset => exact oSelf_ok h
  | second =>
    obtain ⟨L1, h2, h⟩ := Option.bind_eq_some_iff.mp h
    have q1 := oAt_ok (ρ := ρ) h2
    have q1' : setAt (L.map (osl ρ)).toArray (i - 1) .unset = some (L1.map (osl ρ)).toArray := q1.1
    show (setAt _ _ _).bind _ = _ ∧ _
    rw [q1']
    have q := oSelf_ok (ρ := ρ) h
    exact ⟨q.1, q.2.trans q1.2⟩
  | val old =>
    show (if (ov ρ old).category = 2 then _ else _) = _ ∧ _
    rw [ov_cat]
    dsimp only at h
    split at h
    · rename_i hc
      rw [if_pos hc]
      obtain ⟨L1, h2, h⟩ := Option.bind_eq_some_iff.mp h
      have q1 := oAt_ok (ρ := ρ) h2
      have q1' : setAt (L.map (osl ρ)).toArray (i + 1) .unset = some (L1.map (osl ρ)).toArray := q1.1
      rw [q1']
      have q := oSelf_ok (ρ := ρ) h
      exact ⟨q.1, q.2.trans q1.2⟩
    · rename_i hc
      rw [if_neg hc]
      exact oSelf_ok h
/-- a slot of any kind of one word is written over -/
theorem oSt_one {L : List Slot} {i : Nat} {v : Value} {o : Slot} (h : L[i]? = some o) (ho : One o) (hv : v.category = 1) : oSt L i v = some (L.set i (.val v)) := by
  have hi := (List.getElem?_eq_some_iff.mp h).1
  have e : oSelf L i v = some (L.set i (.val v)) := by
    unfold oSelf oAt
    rw [if_pos hi]
    show (if v.category = 2 then _ else _) = _
    rw [if_neg (by omega)]
  unfold oSt
  rw [h]
  rcases ho with rfl | ⟨w, rfl, hw⟩
  · exact e
  · show (if w.category = 2 then _ else _) = _
    rw [if_neg (by omega)]; exact e
/-! the judgements -/
abbrev oF (ρ : oM) (m : MethodId) (a : oS) : JFrame := mkF m a.1 (a.2.1.map (osl ρ)).toArray (a.2.2.1.map (ov ρ))
/-- from the abstract state a the walk comes to b -/
def Sim (l : Launch) (Z : State) (K : oK) (ρ : oM) (own mn : String) (bytes : ByteArray) (ml : Nat) (R : Room) (a b : oS) : Prop :=
  ∀ (p : Program) (e : Env) (s : State) (m : MethodId) (args : Array Value) (below : List Frame) (meth : Method) (c : Code) (T : State) (locs : List Loc),
    Stand p l e R s m args below meth c T locs a.2.2.2.2.1 a.2.2.2.2.2 → p.tables.exec = Jvm.exec → Z.Warmed39 s.vm → c.code = bytes → c.maxLocals = ml → s.vm.findClass own = some m.cls → meth.name = mn → oRep Z K ρ T.heap a.2.2.2.1 → Fr (ρ.1 0) locs → a.2.1.length = ml →
    ∃ (T' : State) (locs' : List Loc), Stand p l e R s m args below meth c T' locs' b.2.2.2.2.1 b.2.2.2.2.2 ∧ oRep Z K ρ T'.heap b.2.2.2.1 ∧ Fr (ρ.1 0) locs' ∧ b.2.1.length = ml ∧
      ∀ target, Steps p.tables e below (T'.setTop (oF ρ m b)) target → Steps p.tables e below (T.setTop (oF ρ m a)) target
/-- from the abstract state a the method returns v, and its own heap is then A' -/
def Ends (l : Launch) (Z : State) (K : oK) (ρ : oM) (own mn : String) (bytes : ByteArray) (ml : Nat) (R : Room) (ret : Option FieldType) (a : oS) (v : Option Value) (A' : oH) : Prop :=
  ∀ (p : Program) (e : Env) (s : State) (m : MethodId) (args : Array Value) (below : List Frame) (meth : Method) (c : Code) (T : State) (locs : List Loc),
    Stand p l e R s m args below meth c T locs a.2.2.2.2.1 a.2.2.2.2.2 → p.tables.exec = Jvm.exec → Z.Warmed39 s.vm → c.code = bytes → c.maxLocals = ml → s.vm.findClass own = some m.cls → meth.name = mn → oRep Z K ρ T.heap a.2.2.2.1 → Fr (ρ.1 0) locs → a.2.1.length = ml →
    meth.sig.returnType = ret → meth.locks = false →
    ∃ (s₂ : State) (locs' : List Loc), Steps p.tables e below (T.setTop (oF ρ m a)) s₂ ∧ s₂.status = .running ∧ Ended s₂ below (.returned (v.map (ov ρ))) ∧ Fr (ρ.1 0) locs' ∧ oRep Z K ρ s₂.heap A' ∧ s.WarmedH s₂.vm ∧ s.sameButNew ({ s₂ with vm := s.vm } : State) locs' R.cells R.slots
/-- the contract of a method at given arguments and own heap -/
def Met (l : Launch) (Z : State) (K : oK) (ρ : oM) (y : MethodName) (bytes : ByteArray) (ml : Nat) (ret : Option FieldType) (rm : Room) (ws : List Jvm.Cond) (as : List Value) (A : oH) (v : Option Value) (A' : oH) : Prop :=
  ∀ h0, oRep Z K ρ h0 A → MetFree l y (head1 (Jvm.Cond.code y bytes ml ret :: ws) rm) (fun a U => a = (as.map (ov ρ)).toArray ∧ Z.Warmed39 U.vm ∧ U.heap = h0) (fun _ _ _ _ _ => True)
    (fun _ U o U' => ∃ v' L, o = .returned v' ∧ (v' = v.map (ov ρ) ∧ Fr (ρ.1 0) L ∧ oRep Z K ρ U'.heap A') ∧ FrameEnd U o U' L rm.cells rm.slots)
section Layer
variable {l : Launch} {Z : State} {K : oK} {ρ : oM} {own mn : String} {bytes : ByteArray} {ml : Nat} {R : Room} {ret : Option FieldType} {a0 : Array Value}
variable {pc pc' : Nat} {L L' : List Slot} {S S' : List Value} {A A' : oH} {c n : Nat} {v : Option Value}
theorem Sim.rf (a : oS) : Sim l Z K ρ own mn bytes ml R a a := fun p e s m args below meth c T locs X _ _ _ _ _ _ hR hF hL => ⟨T, locs, X, hR, hF, hL, fun _ k => k⟩
theorem Sim.tr {a b d : oS} (h1 : Sim l Z K ρ own mn bytes ml R a b) (h2 : Sim l Z K ρ own mn bytes ml R b d) : Sim l Z K ρ own mn bytes ml R a d := fun p e s m args below meth c T locs X hx hZ hby hml hown hnm hR hF hL => by
  obtain ⟨T1, l1, X1, R1, F1, L1, k1⟩ := h1 p e s m args below meth c T locs X hx hZ hby hml hown hnm hR hF hL
  obtain ⟨T2, l2, X2, R2, F2, L2, k2⟩ := h2 p e s m args below meth c T1 l1 X1 hx hZ hby hml hown hnm R1 F1 L1
  exact ⟨T2, l2, X2, R2, F2, L2, fun t k => k1 t (k2 t k)⟩
theorem Ends.st {a b : oS} (h1 : Sim l Z K ρ own mn bytes ml R a b) (h2 : Ends l Z K ρ own mn bytes ml R ret b v A') : Ends l Z K ρ own mn bytes ml R ret a v A' := fun p e s m args below meth c T locs X hx hZ hby hml hown hnm hR hF hL hrt hlk => by
  obtain ⟨T1, l1, X1, R1, F1, L1, k1⟩ := h1 p e s m args below meth c T locs X hx hZ hby hml hown hnm hR hF hL
  obtain ⟨s2, l2, g1, g2⟩ := h2 p e s m args below meth c T1 l1 X1 hx hZ hby hml hown hnm R1 F1 L1 hrt hlk
  exact ⟨s2, l2, k1 s2 g1, g2⟩
/-- the same, whatever its own heap is then -/
def EndsE (l : Launch) (Z : State) (K : oK) (ρ : oM) (own mn : String) (bytes : ByteArray) (ml : Nat) (R : Room) (ret : Option FieldType) (a : oS) (v : Option Value) : Prop := ∃ A', Ends l Z K ρ own mn bytes ml R ret a v A'
theorem EndsE.st {a b : oS} (h1 : Sim l Z K ρ own mn bytes ml R a b) (h2 : EndsE l Z K ρ own mn bytes ml R ret b v) : EndsE l Z K ρ own mn bytes ml R ret a v := h2.imp fun _ h => Ends.st h1 h
theorem Sim.pure (hl : L'.length = L.length)
    (h : ∀ (p : Program) (e : Env) (s : State) (m : MethodId) (args : Array Value) (below : List Frame) (meth : Method) (cd : Code) (T : State) (locs : List Loc), Stand p l e R s m args below meth cd T locs c n → p.tables.exec = Jvm.exec → Z.Warmed39 s.vm → cd.code = bytes → s.vm.findClass own = some m.cls →
      ∀ target, Steps p.tables e below (T.setTop (oF ρ m (pc', L', S', A, c, n))) target → Steps p.tables e below (T.setTop (oF ρ m (pc, L, S, A, c, n))) target) :
    Sim l Z K ρ own mn bytes ml R (pc, L, S, A, c, n) (pc', L', S', A, c, n) :=
  fun p e s m args below meth cd T locs X hx hZ hby hml hown hnm hR hF hL => ⟨T, locs, X, hR, hF, hl.trans hL, h p e s m args below meth cd T locs X hx hZ hby hown⟩

theorem s_iload {j : Nat} {z : Int32} (hd : decode bytes pc = .ok (.iload j, 2)) (hl : L[j]? = some (.val (.int z))) : Sim l Z K ρ own mn bytes ml R (pc, L, S, A, c, n) (pc + 2, L, .int z :: S, A, c, n) :=
  Sim.pure rfl fun p e s m args below meth cd T locs X hx hZ hby hown target k => XS.iload X.here hx rfl (hb hby hd) (oget hl) k
theorem s_iloadN {j : Fin 4} {z : Int32} (hd : decode bytes pc = .ok (.iload_n j, 1)) (hl : L[j.val]? = some (.val (.int z))) : Sim l Z K ρ own mn bytes ml R (pc, L, S, A, c, n) (pc + 1, L, .int z :: S, A, c, n) :=
  Sim.pure rfl fun p e s m args below meth cd T locs X hx hZ hby hown target k => XS.iloadN X.here hx rfl (hb hby hd) (oget hl) k
theorem s_lload {j : Nat} {z : Int64} (hd : decode bytes pc = .ok (.lload j, 2)) (hl : L[j]? = some (.val (.long z))) : Sim l Z K ρ own mn bytes ml R (pc, L, S, A, c, n) (pc + 2, L, .long z :: S, A, c, n) :=
  Sim.pure rfl fun p e s m args below meth cd T locs X hx hZ hby hown target k => XS.lload X.here hx rfl (hb hby hd) (oget hl) k
theorem s_lloadN {j : Fin 4} {z : Int64} (hd : decode bytes pc = .ok (.lload_n j, 1)) (hl : L[j.val]? = some (.val (.long z))) : Sim l Z K ρ own mn bytes ml R (pc, L, S, A, c, n) (pc + 1, L, .long z :: S, A, c, n) :=
  Sim.pure rfl fun p e s m args below meth cd T locs X hx hZ hby hown target k => XS.lloadN X.here hx rfl (hb hby hd) (oget hl) k
theorem s_aload {j : Nat} {w : Value} (hd : decode bytes pc = .ok (.aload j, 2)) (hl : L[j]? = some (.val w)) (hv : (ov ρ w).isRef = true) : Sim l Z K ρ own mn bytes ml R (pc, L, S, A, c, n) (pc + 2, L, w :: S, A, c, n) :=
  Sim.pure rfl fun p e s m args below meth cd T locs X hx hZ hby hown target k => XS.aload X.here hx rfl (hb hby hd) (oget hl) hv k
theorem s_aloadN {j : Fin 4} {w : Value} (hd : decode bytes pc = .ok (.aload_n j, 1)) (hl : L[j.val]? = some (.val w)) (hv : (ov ρ w).isRef = true) : Sim l Z K ρ own mn bytes ml R (pc, L, S, A, c, n) (pc + 1, L, w :: S, A, c, n) :=
  Sim.pure rfl fun p e s m args below meth cd T locs X hx hZ hby hown target k => XS.aloadN X.here hx rfl (hb hby hd) (oget hl) hv k
theorem s_istore {j : Nat} {z : Int32} (hd : decode bytes pc = .ok (.istore j, 2)) (hl : oSt L j (.int z) = some L') : Sim l Z K ρ own mn bytes ml R (pc, L, .int z :: S, A, c, n) (pc + 2, L', S, A, c, n) :=
  Sim.pure (oSt_ok (ρ := ρ) hl).2 fun p e s m args below meth cd T locs X hx hZ hby hown target k => XS.istore X.here hx rfl (hb hby hd) rfl (oSt_ok (ρ := ρ) hl).1 k
theorem s_istoreN {j : Fin 4} {z : Int32} (hd : decode bytes pc = .ok (.istore_n j, 1)) (hl : oSt L j.val (.int z) = some L') : Sim l Z K ρ own mn bytes ml R (pc, L, .int z :: S, A, c, n) (pc + 1, L', S, A, c, n) :=
  Sim.pure (oSt_ok (ρ := ρ) hl).2 fun p e s m args below meth cd T locs X hx hZ hby hown target k => XS.istoreN X.here hx rfl (hb hby hd) rfl (oSt_ok (ρ := ρ) hl).1 k
theorem s_lstore {j : Nat} {z : Int64} (hd : decode bytes pc = .ok (.lstore j, 2)) (hl : oSt L j (.long z) = some L') : Sim l Z K ρ own mn bytes ml R (pc, L, .long z :: S, A, c, n) (pc + 2, L', S, A, c, n) :=
  Sim.pure (oSt_ok (ρ := ρ) hl).2 fun p e s m args below meth cd T locs X hx hZ hby hown target k => XS.lstore X.here hx rfl (hb hby hd) rfl (oSt_ok (ρ := ρ) hl).1 k
theorem s_lstoreN {j : Fin 4} {z : Int64} (hd : decode bytes pc = .ok (.lstore_n j, 1)) (hl : oSt L j.val (.long z) = some L') : Sim l Z K ρ own mn bytes ml R (pc, L, .long z :: S, A, c, n) (pc + 1, L', S, A, c, n) :=
  Sim.pure (oSt_ok (ρ := ρ) hl).2 fun p e s m args below meth cd T locs X hx hZ hby hown target k => XS.lstoreN X.here hx rfl (hb hby hd) rfl (oSt_ok (ρ := ρ) hl).1 k
theorem s_astore {j : Nat} {w : Value} (hd : decode bytes pc = .ok (.astore j, 2)) (hv : (ov ρ w).isRef = true) (hl : oSt L j w = some L') : Sim l Z K ρ own mn bytes ml R (pc, L, w :: S, A, c, n) (pc + 2, L', S, A, c, n) :=
  Sim.pure (oSt_ok (ρ := ρ) hl).2 fun p e s m args below meth cd T locs X hx hZ hby hown target k => XS.astore X.here hx rfl (hb hby hd) rfl hv (oSt_ok (ρ := ρ) hl).1 k
theorem s_astoreN {j : Fin 4} {w : Value} (hd : decode bytes pc = .ok (.astore_n j, 1)) (hv : (ov ρ w).isRef = true) (hl : oSt L j.val w = some L') : Sim l Z K ρ own mn bytes ml R (pc, L, w :: S, A, c, n) (pc + 1, L', S, A, c, n) :=
  Sim.pure (oSt_ok (ρ := ρ) hl).2 fun p e s m args below meth cd T locs X hx hZ hby hown target k => XS.astoreN X.here hx rfl (hb hby hd) rfl hv (oSt_ok (ρ := ρ) hl).1 k
theorem s_iinc {j : Nat} {i : Int} {z z' : Int32} (hd : decode bytes pc = .ok (.iinc j i, 3)) (h : L[j]? = some (.val (.int z))) (hz : z + Int32.ofInt i = z') (hl : oSt L j (.int z') = some L') : Sim l Z K ρ own mn bytes ml R (pc, L, S, A, c, n) (pc + 3, L', S, A, c, n) := by
  subst hz
  exact Sim.pure (oSt_ok (ρ := ρ) hl).2 fun p e s m args below meth cd T locs X hx hZ hby hown target k => XS.iinc X.here hx rfl (hb hby hd) (oget h) (oSt_ok (ρ := ρ) hl).1 k
theorem s_iconst {i : Int} {z : Int32} (hd : decode bytes pc = .ok (.iconst i, 1)) (hz : (Int32.ofInt i) = z) : Sim l Z K ρ own mn bytes ml R (pc, L, S, A, c, n) (pc + 1, L, .int z :: S, A, c, n) := by
  subst hz
  exact Sim.pure rfl fun p e s m args below meth cd T locs X hx hZ hby hown target k => XS.iconst X.here hx rfl (hb hby hd) k
theorem s_bipush {i : Int} {z : Int32} (hd : decode bytes pc = .ok (.bipush i, 2)) (hz : (Int8.ofInt i).toInt32 = z) : Sim l Z K ρ own mn bytes ml R (pc, L, S, A, c, n) (pc + 2, L, .int z :: S, A, c, n) := by
  subst hz
  exact Sim.pure rfl fun p e s m args below meth cd T locs X hx hZ hby hown target k => XS.bipush X.here hx rfl (hb hby hd) k
theorem s_sipush {i : Int} {z : Int32} (hd : decode bytes pc = .ok (.sipush i, 3)) (hz : (Int16.ofInt i).toInt32 = z) : Sim l Z K ρ own mn bytes ml R (pc, L, S, A, c, n) (pc + 3, L, .int z :: S, A, c, n) := by
  subst hz
  exact Sim.pure rfl fun p e s m args below meth cd T locs X hx hZ hby hown target k => XS.sipush X.here hx rfl (hb hby hd) k
theorem s_lconst {i : Fin 2} {z : Int64} (hd : decode bytes pc = .ok (.lconst i, 1)) (hz : Int64.ofNat i = z) : Sim l Z K ρ own mn bytes ml R (pc, L, S, A, c, n) (pc + 1, L, .long z :: S, A, c, n) := by
  subst hz
  exact Sim.pure rfl fun p e s m args below meth cd T locs X hx hZ hby hown target k => XS.lconst X.here hx rfl (hb hby hd) k
theorem s_aconstNull  (hd : decode bytes pc = .ok (.aconst_null, 1)) : Sim l Z K ρ own mn bytes ml R (pc, L, S, A, c, n) (pc + 1, L, .null :: S, A, c, n) :=
  Sim.pure rfl fun p e s m args below meth cd T locs X hx hZ hby hown target k => XS.aconstNull X.here hx rfl (hb hby hd) k
theorem s_ldc {i : Nat} {z : Int32} (w : (Jvm.Cond.constant own i z).before a0 Z = true) (hd : decode bytes pc = .ok (.ldc i, 2)) : Sim l Z K ρ own mn bytes ml R (pc, L, S, A, c, n) (pc + 2, L, .int z :: S, A, c, n) :=
  Sim.pure rfl fun p e s m args below meth cd T locs X hx hZ hby hown target k => X.ldcInt hx hown (mvT hZ w) (g := oF ρ m (pc, L, S, A, c, n)) rfl (hb hby hd) target k
theorem s_ldcw {i : Nat} {z : Int32} (w : (Jvm.Cond.constant own i z).before a0 Z = true) (hd : decode bytes pc = .ok (.ldc_w i, 3)) : Sim l Z K ρ own mn bytes ml R (pc, L, S, A, c, n) (pc + 3, L, .int z :: S, A, c, n) :=
  Sim.pure rfl fun p e s m args below meth cd T locs X hx hZ hby hown target k => X.ldcwInt hx hown (mvT hZ w) (g := oF ρ m (pc, L, S, A, c, n)) rfl (hb hby hd) target k
theorem s_ldc2 {i : Nat} {z : Int64} (w : (Jvm.Cond.constantLong own i z).before a0 Z = true) (hd : decode bytes pc = .ok (.ldc2_w i, 3)) : Sim l Z K ρ own mn bytes ml R (pc, L, S, A, c, n) (pc + 3, L, .long z :: S, A, c, n) :=
  Sim.pure rfl fun p e s m args below meth cd T locs X hx hZ hby hown target k => X.ldc2Long hx hown (mvT hZ w) (g := oF ρ m (pc, L, S, A, c, n)) rfl (hb hby hd) target k
def jushr (x y : Int32) : Int32 := (x.toUInt32 >>> (y &&& 31).toUInt32).toInt32
def jshl (x y : Int32) : Int32 := x <<< (y &&& 31)
def jshr (x y : Int32) : Int32 := x >>> (y &&& 31)
def jushrL (x : Int64) (y : Int32) : Int64 := (x.toUInt64 >>> (y &&& 0x3f).toInt64.toUInt64).toInt64
def jshlL (x : Int64) (y : Int32) : Int64 := x <<< (y &&& 0x3f).toInt64
def jshrL (x : Int64) (y : Int32) : Int64 := x >>> (y &&& 0x3f).toInt64
def jcmp (x y : Int64) : Int32 := if x > y then 1 else if x = y then 0 else -1
theorem s_iadd {x y : Int32} (hd : decode bytes pc = .ok (.iadd, 1)) : Sim l Z K ρ own mn bytes ml R (pc, L, .int y :: .int x :: S, A, c, n) (pc + 1, L, .int (x + y) :: S, A, c, n) :=
  Sim.pure rfl fun p e s m args below meth cd T locs X hx hZ hby hown target k => XS.iadd X.here hx rfl (hb hby hd) rfl k
theorem s_isub {x y : Int32} (hd : decode bytes pc = .ok (.isub, 1)) : Sim l Z K ρ own mn bytes ml R (pc, L, .int y :: .int x :: S, A, c, n) (pc + 1, L, .int (x - y) :: S, A, c, n) :=
  Sim.pure rfl fun p e s m args below meth cd T locs X hx hZ hby hown target k => XS.isub X.here hx rfl (hb hby hd) rfl k
theorem s_imul {x y : Int32} (hd : decode bytes pc = .ok (.imul, 1)) : Sim l Z K ρ own mn bytes ml R (pc, L, .int y :: .int x :: S, A, c, n) (pc + 1, L, .int (x * y) :: S, A, c, n) :=
  Sim.pure rfl fun p e s m args below meth cd T locs X hx hZ hby hown target k => XS.imul X.here hx rfl (hb hby hd) rfl k
theorem s_iand {x y : Int32} (hd : decode bytes pc = .ok (.iand, 1)) : Sim l Z K ρ own mn bytes ml R (pc, L, .int y :: .int x :: S, A, c, n) (pc + 1, L, .int (x &&& y) :: S, A, c, n) :=
  Sim.pure rfl fun p e s m args below meth cd T locs X hx hZ hby hown target k => XS.iand X.here hx rfl (hb hby hd) rfl k
theorem s_ior {x y : Int32} (hd : decode bytes pc = .ok (.ior, 1)) : Sim l Z K ρ own mn bytes ml R (pc, L, .int y :: .int x :: S, A, c, n) (pc + 1, L, .int (x ||| y) :: S, A, c, n) :=
  Sim.pure rfl fun p e s m args below meth cd T locs X hx hZ hby hown target k => XS.ior X.here hx rfl (hb hby hd) rfl k
theorem s_ixor {x y : Int32} (hd : decode bytes pc = .ok (.ixor, 1)) : Sim l Z K ρ own mn bytes ml R (pc, L, .int y :: .int x :: S, A, c, n) (pc + 1, L, .int (x ^^^ y) :: S, A, c, n) :=
  Sim.pure rfl fun p e s m args below meth cd T locs X hx hZ hby hown target k => XS.ixor X.here hx rfl (hb hby hd) rfl k
theorem s_ishl {x y : Int32} (hd : decode bytes pc = .ok (.ishl, 1)) : Sim l Z K ρ own mn bytes ml R (pc, L, .int y :: .int x :: S, A, c, n) (pc + 1, L, .int (jshl x y) :: S, A, c, n) :=
  Sim.pure rfl fun p e s m args below meth cd T locs X hx hZ hby hown target k => XS.ishl X.here hx rfl (hb hby hd) rfl k
theorem s_ishr {x y : Int32} (hd : decode bytes pc = .ok (.ishr, 1)) : Sim l Z K ρ own mn bytes ml R (pc, L, .int y :: .int x :: S, A, c, n) (pc + 1, L, .int (jshr x y) :: S, A, c, n) :=
  Sim.pure rfl fun p e s m args below meth cd T locs X hx hZ hby hown target k => XS.ishr X.here hx rfl (hb hby hd) rfl k
theorem s_iushr {x y : Int32} (hd : decode bytes pc = .ok (.iushr, 1)) : Sim l Z K ρ own mn bytes ml R (pc, L, .int y :: .int x :: S, A, c, n) (pc + 1, L, .int (jushr x y) :: S, A, c, n) :=
  Sim.pure rfl fun p e s m args below meth cd T locs X hx hZ hby hown target k => XS.iushr X.here hx rfl (hb hby hd) rfl k
theorem s_ladd {x y : Int64} (hd : decode bytes pc = .ok (.ladd, 1)) : Sim l Z K ρ own mn bytes ml R (pc, L, .long y :: .long x :: S, A, c, n) (pc + 1, L, .long (x + y) :: S, A, c, n) :=
  Sim.pure rfl fun p e s m args below meth cd T locs X hx hZ hby hown target k => XS.ladd X.here hx rfl (hb hby hd) rfl k
theorem s_lsub {x y : Int64} (hd : decode bytes pc = .ok (.lsub, 1)) : Sim l Z K ρ own mn bytes ml R (pc, L, .long y :: .long x :: S, A, c, n) (pc + 1, L, .long (x - y) :: S, A, c, n) :=
  Sim.pure rfl fun p e s m args below meth cd T locs X hx hZ hby hown target k => XS.lsub X.here hx rfl (hb hby hd) rfl k
theorem s_lmul {x y : Int64} (hd : decode bytes pc = .ok (.lmul, 1)) : Sim l Z K ρ own mn bytes ml R (pc, L, .long y :: .long x :: S, A, c, n) (pc + 1, L, .long (x * y) :: S, A, c, n) :=
  Sim.pure rfl fun p e s m args below meth cd T locs X hx hZ hby hown target k => XS.lmul X.here hx rfl (hb hby hd) rfl k
theorem s_land {x y : Int64} (hd : decode bytes pc = .ok (.land, 1)) : Sim l Z K ρ own mn bytes ml R (pc, L, .long y :: .long x :: S, A, c, n) (pc + 1, L, .long (x &&& y) :: S, A, c, n) :=
  Sim.pure rfl fun p e s m args below meth cd T locs X hx hZ hby hown target k => XS.land X.here hx rfl (hb hby hd) rfl k
theorem s_lor {x y : Int64} (hd : decode bytes pc = .ok (.lor, 1)) : Sim l Z K ρ own mn bytes ml R (pc, L, .long y :: .long x :: S, A, c, n) (pc + 1, L, .long (x ||| y) :: S, A, c, n) :=
  Sim.pure rfl fun p e s m args below meth cd T locs X hx hZ hby hown target k => XS.lor X.here hx rfl (hb hby hd) rfl k
theorem s_lxor {x y : Int64} (hd : decode bytes pc = .ok (.lxor, 1)) : Sim l Z K ρ own mn bytes ml R (pc, L, .long y :: .long x :: S, A, c, n) (pc + 1, L, .long (x ^^^ y) :: S, A, c, n) :=
  Sim.pure rfl fun p e s m args below meth cd T locs X hx hZ hby hown target k => XS.lxor X.here hx rfl (hb hby hd) rfl k
theorem s_lshl {x : Int64} {y : Int32} (hd : decode bytes pc = .ok (.lshl, 1)) : Sim l Z K ρ own mn bytes ml R (pc, L, .int y :: .long x :: S, A, c, n) (pc + 1, L, .long (jshlL x y) :: S, A, c, n) :=
  Sim.pure rfl fun p e s m args below meth cd T locs X hx hZ hby hown target k => XS.lshl X.here hx rfl (hb hby hd) rfl k
theorem s_lshr {x : Int64} {y : Int32} (hd : decode bytes pc = .ok (.lshr, 1)) : Sim l Z K ρ own mn bytes ml R (pc, L, .int y :: .long x :: S, A, c, n) (pc + 1, L, .long (jshrL x y) :: S, A, c, n) :=
  Sim.pure rfl fun p e s m args below meth cd T locs X hx hZ hby hown target k => XS.lshr X.here hx rfl (hb hby hd) rfl k
theorem s_lushr {x : Int64} {y : Int32} (hd : decode bytes pc = .ok (.lushr, 1)) : Sim l Z K ρ own mn bytes ml R (pc, L, .int y :: .long x :: S, A, c, n) (pc + 1, L, .long (jushrL x y) :: S, A, c, n) :=
  Sim.pure rfl fun p e s m args below meth cd T locs X hx hZ hby hown target k => XS.lushr X.here hx rfl (hb hby hd) rfl k
theorem s_lcmp {x y : Int64} (hd : decode bytes pc = .ok (.lcmp, 1)) : Sim l Z K ρ own mn bytes ml R (pc, L, .long y :: .long x :: S, A, c, n) (pc + 1, L, .int (jcmp x y) :: S, A, c, n) :=
  Sim.pure rfl fun p e s m args below meth cd T locs X hx hZ hby hown target k => XS.lcmp X.here hx rfl (hb hby hd) rfl k
theorem s_ineg {x : Int32} (hd : decode bytes pc = .ok (.ineg, 1)) : Sim l Z K ρ own mn bytes ml R (pc, L, .int x :: S, A, c, n) (pc + 1, L, .int (-x) :: S, A, c, n) :=
  Sim.pure rfl fun p e s m args below meth cd T locs X hx hZ hby hown target k => XS.ineg X.here hx rfl (hb hby hd) rfl k
theorem s_lneg {x : Int64} (hd : decode bytes pc = .ok (.lneg, 1)) : Sim l Z K ρ own mn bytes ml R (pc, L, .long x :: S, A, c, n) (pc + 1, L, .long (-x) :: S, A, c, n) :=
  Sim.pure rfl fun p e s m args below meth cd T locs X hx hZ hby hown target k => XS.lneg X.here hx rfl (hb hby hd) rfl k
theorem s_i2l {x : Int32} (hd : decode bytes pc = .ok (.i2l, 1)) : Sim l Z K ρ own mn bytes ml R (pc, L, .int x :: S, A, c, n) (pc + 1, L, .long (x.toInt64) :: S, A, c, n) :=
  Sim.pure rfl fun p e s m args below meth cd T locs X hx hZ hby hown target k => XS.i2l X.here hx rfl (hb hby hd) rfl k
theorem s_l2i {x : Int64} (hd : decode bytes pc = .ok (.l2i, 1)) : Sim l Z K ρ own mn bytes ml R (pc, L, .long x :: S, A, c, n) (pc + 1, L, .int (x.toInt32) :: S, A, c, n) :=
  Sim.pure rfl fun p e s m args below meth cd T locs X hx hZ hby hown target k => XS.l2i X.here hx rfl (hb hby hd) rfl k
theorem s_i2b {x : Int32} (hd : decode bytes pc = .ok (.i2b, 1)) : Sim l Z K ρ own mn bytes ml R (pc, L, .int x :: S, A, c, n) (pc + 1, L, .int (x.toInt8.toInt32) :: S, A, c, n) :=
  Sim.pure rfl fun p e s m args below meth cd T locs X hx hZ hby hown target k => XS.i2b X.here hx rfl (hb hby hd) rfl k
theorem s_i2s {x : Int32} (hd : decode bytes pc = .ok (.i2s, 1)) : Sim l Z K ρ own mn bytes ml R (pc, L, .int x :: S, A, c, n) (pc + 1, L, .int (x.toInt16.toInt32) :: S, A, c, n) :=
  Sim.pure rfl fun p e s m args below meth cd T locs X hx hZ hby hown target k => XS.i2s X.here hx rfl (hb hby hd) rfl k
theorem s_i2c {x : Int32} (hd : decode bytes pc = .ok (.i2c, 1)) : Sim l Z K ρ own mn bytes ml R (pc, L, .int x :: S, A, c, n) (pc + 1, L, .int (x.toUInt32.toUInt16.toUInt32.toInt32) :: S, A, c, n) :=
  Sim.pure rfl fun p e s m args below meth cd T locs X hx hZ hby hown target k => XS.i2c X.here hx rfl (hb hby hd) rfl k
theorem s_idiv {x y : Int32} (hd : decode bytes pc = .ok (.idiv, 1)) (hy : y ≠ 0) : Sim l Z K ρ own mn bytes ml R (pc, L, .int y :: .int x :: S, A, c, n) (pc + 1, L, .int (x / y) :: S, A, c, n) :=
  Sim.pure rfl fun p e s m args below meth cd T locs X hx hZ hby hown target k => XS.idiv X.here hx rfl (hb hby hd) rfl hy k
theorem s_irem {x y : Int32} (hd : decode bytes pc = .ok (.irem, 1)) (hy : y ≠ 0) : Sim l Z K ρ own mn bytes ml R (pc, L, .int y :: .int x :: S, A, c, n) (pc + 1, L, .int (x % y) :: S, A, c, n) :=
  Sim.pure rfl fun p e s m args below meth cd T locs X hx hZ hby hown target k => iremM X hx rfl (hb hby hd) rfl hy k
theorem s_ldiv {x y : Int64} (hd : decode bytes pc = .ok (.ldiv, 1)) (hy : y ≠ 0) : Sim l Z K ρ own mn bytes ml R (pc, L, .long y :: .long x :: S, A, c, n) (pc + 1, L, .long (x / y) :: S, A, c, n) :=
  Sim.pure rfl fun p e s m args below meth cd T locs X hx hZ hby hown target k => XS.ldiv X.here hx rfl (hb hby hd) rfl hy k
theorem s_lrem {x y : Int64} (hd : decode bytes pc = .ok (.lrem, 1)) (hy : y ≠ 0) : Sim l Z K ρ own mn bytes ml R (pc, L, .long y :: .long x :: S, A, c, n) (pc + 1, L, .long (x % y) :: S, A, c, n) :=
  Sim.pure rfl fun p e s m args below meth cd T locs X hx hZ hby hown target k => XS.lrem X.here hx rfl (hb hby hd) rfl hy (by rw [lrem_mod x y]; exact k)
theorem s_dup {w : Value} (hd : decode bytes pc = .ok (.dup, 1)) (hc : w.category = 1) : Sim l Z K ρ own mn bytes ml R (pc, L, w :: S, A, c, n) (pc + 1, L, w :: w :: S, A, c, n) :=
  Sim.pure rfl fun p e s m args below meth cd T locs X hx hZ hby hown target k => XS.dup X.here hx rfl (hb hby hd) rfl ((ov_cat ρ w).trans hc) k
theorem s_pop {w : Value} (hd : decode bytes pc = .ok (.pop, 1)) (hc : w.category = 1) : Sim l Z K ρ own mn bytes ml R (pc, L, w :: S, A, c, n) (pc + 1, L, S, A, c, n) :=
  Sim.pure rfl fun p e s m args below meth cd T locs X hx hZ hby hown target k => XS.pop X.here hx rfl (hb hby hd) rfl ((ov_cat ρ w).trans hc) k
theorem s_dupX1 {w u : Value} (hd : decode bytes pc = .ok (.dup_x1, 1)) (hc : w.category = 1) (hc' : u.category = 1) : Sim l Z K ρ own mn bytes ml R (pc, L, w :: u :: S, A, c, n) (pc + 1, L, w :: u :: w :: S, A, c, n) :=
  Sim.pure rfl fun p e s m args below meth cd T locs X hx hZ hby hown target k => XS.dupX1 X.here hx rfl (hb hby hd) rfl ((ov_cat ρ w).trans hc) ((ov_cat ρ u).trans hc') k
theorem s_goto {o : Int} (hd : decode bytes pc = .ok (.goto o, 3)) (ho : 0 ≤ (pc : Int) + o) (hp : ((pc : Int) + o).toNat = pc') : Sim l Z K ρ own mn bytes ml R (pc, L, S, A, c, n) (pc', L, S, A, c, n) :=
  Sim.pure rfl fun p e s m args below meth cd T locs X hx hZ hby hown target k => XS.goto X.here hx rfl rfl (hb hby hd) ho hp k
theorem s_icmp_eq_t {o : Int} {x y : Int32} (hd : decode bytes pc = .ok (.if_icmp .eq o, 3)) (h : x = y) (ho : 0 ≤ (pc : Int) + o) (hp : ((pc : Int) + o).toNat = pc') : Sim l Z K ρ own mn bytes ml R (pc, L, .int y :: .int x :: S, A, c, n) (pc', L, S, A, c, n) :=
  Sim.pure rfl fun p e s m args below meth cd T locs X hx hZ hby hown target k => XS.icmpYes X.here hx rfl rfl (hb hby hd) rfl (teq h).1 ho hp k
theorem s_icmp_eq_f {o : Int} {x y : Int32} (hd : decode bytes pc = .ok (.if_icmp .eq o, 3)) (h : ¬ x = y) : Sim l Z K ρ own mn bytes ml R (pc, L, .int y :: .int x :: S, A, c, n) (pc + 3, L, S, A, c, n) :=
  Sim.pure rfl fun p e s m args below meth cd T locs X hx hZ hby hown target k => XS.icmpNo X.here hx rfl (hb hby hd) rfl (feq h).1 k
theorem s_if_eq_t {o : Int} {x : Int32} (hd : decode bytes pc = .ok (.ifCond .eq o, 3)) (h : x = 0) (ho : 0 ≤ (pc : Int) + o) (hp : ((pc : Int) + o).toNat = pc') : Sim l Z K ρ own mn bytes ml R (pc, L, .int x :: S, A, c, n) (pc', L, S, A, c, n) :=
  Sim.pure rfl fun p e s m args below meth cd T locs X hx hZ hby hown target k => XS.ifYes X.here hx rfl rfl (hb hby hd) rfl ((if0 _ _).trans (teq h).1) ho hp k
theorem s_if_eq_f {o : Int} {x : Int32} (hd : decode bytes pc = .ok (.ifCond .eq o, 3)) (h : ¬ x = 0) : Sim l Z K ρ own mn bytes ml R (pc, L, .int x :: S, A, c, n) (pc + 3, L, S, A, c, n) :=
  Sim.pure rfl fun p e s m args below meth cd T locs X hx hZ hby hown target k => XS.ifNo X.here hx rfl (hb hby hd) rfl ((if0 _ _).trans (feq h).1) k
theorem Ends.icmp_eq {o : Int} {x y : Int32} (hd : decode bytes pc = .ok (.if_icmp .eq o, 3)) (ho : 0 ≤ (pc : Int) + o) (hp : ((pc : Int) + o).toNat = pc') (ht : x = y → Ends l Z K ρ own mn bytes ml R ret (pc', L, S, A, c, n) v A') (hf : ¬ x = y → Ends l Z K ρ own mn bytes ml R ret (pc + 3, L, S, A, c, n) v A') : Ends l Z K ρ own mn bytes ml R ret (pc, L, .int y :: .int x :: S, A, c, n) v A' := by
  by_cases h : x = y
  · exact Ends.st (s_icmp_eq_t hd h ho hp) (ht h)
  · exact Ends.st (s_icmp_eq_f hd h) (hf h)
theorem Ends.if_eq {o : Int} {x : Int32} (hd : decode bytes pc = .ok (.ifCond .eq o, 3)) (ho : 0 ≤ (pc : Int) + o) (hp : ((pc : Int) + o).toNat = pc') (ht : x = 0 → Ends l Z K ρ own mn bytes ml R ret (pc', L, S, A, c, n) v A') (hf : ¬ x = 0 → Ends l Z K ρ own mn bytes ml R ret (pc + 3, L, S, A, c, n) v A') : Ends l Z K ρ own mn bytes ml R ret (pc, L, .int x :: S, A, c, n) v A' := by
  by_cases h : x = 0
  · exact Ends.st (s_if_eq_t hd h ho hp) (ht h)
  · exact Ends.st (s_if_eq_f hd h) (hf h)
theorem Sim.icmp_eq {q : oS} {o : Int} {x y : Int32} (hd : decode bytes pc = .ok (.if_icmp .eq o, 3)) (ho : 0 ≤ (pc : Int) + o) (hp : ((pc : Int) + o).toNat = pc') (ht : x = y → Sim l Z K ρ own mn bytes ml R (pc', L, S, A, c, n) q) (hf : ¬ x = y → Sim l Z K ρ own mn bytes ml R (pc + 3, L, S, A, c, n) q) : Sim l Z K ρ own mn bytes ml R (pc, L, .int y :: .int x :: S, A, c, n) q := by
  by_cases h : x = y
  · exact Sim.tr (s_icmp_eq_t hd h ho hp) (ht h)
  · exact Sim.tr (s_icmp_eq_f hd h) (hf h)
theorem Sim.if_eq {q : oS} {o : Int} {x : Int32} (hd : decode bytes pc = .ok (.ifCond .eq o, 3)) (ho : 0 ≤ (pc : Int) + o) (hp : ((pc : Int) + o).toNat = pc') (ht : x = 0 → Sim l Z K ρ own mn bytes ml R (pc', L, S, A, c, n) q) (hf : ¬ x = 0 → Sim l Z K ρ own mn bytes ml R (pc + 3, L, S, A, c, n) q) : Sim l Z K ρ own mn bytes ml R (pc, L, .int x :: S, A, c, n) q := by
  by_cases h : x = 0
  · exact Sim.tr (s_if_eq_t hd h ho hp) (ht h)
  · exact Sim.tr (s_if_eq_f hd h) (hf h)
theorem EndsE.icmp_eq {o : Int} {x y : Int32} (hd : decode bytes pc = .ok (.if_icmp .eq o, 3)) (ho : 0 ≤ (pc : Int) + o) (hp : ((pc : Int) + o).toNat = pc') (ht : x = y → EndsE l Z K ρ own mn bytes ml R ret (pc', L, S, A, c, n) v) (hf : ¬ x = y → EndsE l Z K ρ own mn bytes ml R ret (pc + 3, L, S, A, c, n) v) : EndsE l Z K ρ own mn bytes ml R ret (pc, L, .int y :: .int x :: S, A, c, n) v := by
  by_cases h : x = y
  · exact EndsE.st (s_icmp_eq_t hd h ho hp) (ht h)
  · exact EndsE.st (s_icmp_eq_f hd h) (hf h)
theorem EndsE.if_eq {o : Int} {x : Int32} (hd : decode bytes pc = .ok (.ifCond .eq o, 3)) (ho : 0 ≤ (pc : Int) + o) (hp : ((pc : Int) + o).toNat = pc') (ht : x = 0 → EndsE l Z K ρ own mn bytes ml R ret (pc', L, S, A, c, n) v) (hf : ¬ x = 0 → EndsE l Z K ρ own mn bytes ml R ret (pc + 3, L, S, A, c, n) v) : EndsE l Z K ρ own mn bytes ml R ret (pc, L, .int x :: S, A, c, n) v := by
  by_cases h : x = 0
  · exact EndsE.st (s_if_eq_t hd h ho hp) (ht h)
  · exact EndsE.st (s_if_eq_f hd h) (hf h)
theorem s_icmp_ne_t {o : Int} {x y : Int32} (hd : decode bytes pc = .ok (.if_icmp .ne o, 3)) (h : ¬ x = y) (ho : 0 ≤ (pc : Int) + o) (hp : ((pc : Int) + o).toNat = pc') : Sim l Z K ρ own mn bytes ml R (pc, L, .int y :: .int x :: S, A, c, n) (pc', L, S, A, c, n) :=
  Sim.pure rfl fun p e s m args below meth cd T locs X hx hZ hby hown target k => XS.icmpYes X.here hx rfl rfl (hb hby hd) rfl (feq h).2 ho hp k
theorem s_icmp_ne_f {o : Int} {x y : Int32} (hd : decode bytes pc = .ok (.if_icmp .ne o, 3)) (h : x = y) : Sim l Z K ρ own mn bytes ml R (pc, L, .int y :: .int x :: S, A, c, n) (pc + 3, L, S, A, c, n) :=
  Sim.pure rfl fun p e s m args below meth cd T locs X hx hZ hby hown target k => XS.icmpNo X.here hx rfl (hb hby hd) rfl (teq h).2 k
theorem s_if_ne_t {o : Int} {x : Int32} (hd : decode bytes pc = .ok (.ifCond .ne o, 3)) (h : ¬ x = 0) (ho : 0 ≤ (pc : Int) + o) (hp : ((pc : Int) + o).toNat = pc') : Sim l Z K ρ own mn bytes ml R (pc, L, .int x :: S, A, c, n) (pc', L, S, A, c, n) :=
  Sim.pure rfl fun p e s m args below meth cd T locs X hx hZ hby hown target k => XS.ifYes X.here hx rfl rfl (hb hby hd) rfl ((if0 _ _).trans (feq h).2) ho hp k
theorem s_if_ne_f {o : Int} {x : Int32} (hd : decode bytes pc = .ok (.ifCond .ne o, 3)) (h : x = 0) : Sim l Z K ρ own mn bytes ml R (pc, L, .int x :: S, A, c, n) (pc + 3, L, S, A, c, n) :=
  Sim.pure rfl fun p e s m args below meth cd T locs X hx hZ hby hown target k => XS.ifNo X.here hx rfl (hb hby hd) rfl ((if0 _ _).trans (teq h).2) k
theorem Ends.icmp_ne {o : Int} {x y : Int32} (hd : decode bytes pc = .ok (.if_icmp .ne o, 3)) (ho : 0 ≤ (pc : Int) + o) (hp : ((pc : Int) + o).toNat = pc') (ht : ¬ x = y → Ends l Z K ρ own mn bytes ml R ret (pc', L, S, A, c, n) v A') (hf : x = y → Ends l Z K ρ own mn bytes ml R ret (pc + 3, L, S, A, c, n) v A') : Ends l Z K ρ own mn bytes ml R ret (pc, L, .int y :: .int x :: S, A, c, n) v A' := by
  by_cases h : ¬ x = y
  · exact Ends.st (s_icmp_ne_t hd h ho hp) (ht h)
  · exact Ends.st (s_icmp_ne_f hd (Classical.not_not.mp h)) (hf (Classical.not_not.mp h))
theorem Ends.if_ne {o : Int} {x : Int32} (hd : decode bytes pc = .ok (.ifCond .ne o, 3)) (ho : 0 ≤ (pc : Int) + o) (hp : ((pc : Int) + o).toNat = pc') (ht : ¬ x = 0 → Ends l Z K ρ own mn bytes ml R ret (pc', L, S, A, c, n) v A') (hf : x = 0 → Ends l Z K ρ own mn bytes ml R ret (pc + 3, L, S, A, c, n) v A') : Ends l Z K ρ own mn bytes ml R ret (pc, L, .int x :: S, A, c, n) v A' := by
  by_cases h : ¬ x = 0
  · exact Ends.st (s_if_ne_t hd h ho hp) (ht h)
  · exact Ends.st (s_if_ne_f hd (Classical.not_not.mp h)) (hf (Classical.not_not.mp h))
theorem Sim.icmp_ne {q : oS} {o : Int} {x y : Int32} (hd : decode bytes pc = .ok (.if_icmp .ne o, 3)) (ho : 0 ≤ (pc : Int) + o) (hp : ((pc : Int) + o).toNat = pc') (ht : ¬ x = y → Sim l Z K ρ own mn bytes ml R (pc', L, S, A, c, n) q) (hf : x = y → Sim l Z K ρ own mn bytes ml R (pc + 3, L, S, A, c, n) q) : Sim l Z K ρ own mn bytes ml R (pc, L, .int y :: .int x :: S, A, c, n) q := by
  by_cases h : ¬ x = y
  · exact Sim.tr (s_icmp_ne_t hd h ho hp) (ht h)
  · exact Sim.tr (s_icmp_ne_f hd (Classical.not_not.mp h)) (hf (Classical.not_not.mp h))
theorem Sim.if_ne {q : oS} {o : Int} {x : Int32} (hd : decode bytes pc = .ok (.ifCond .ne o, 3)) (ho : 0 ≤ (pc : Int) + o) (hp : ((pc : Int) + o).toNat = pc') (ht : ¬ x = 0 → Sim l Z K ρ own mn bytes ml R (pc', L, S, A, c, n) q) (hf : x = 0 → Sim l Z K ρ own mn bytes ml R (pc + 3, L, S, A, c, n) q) : Sim l Z K ρ own mn bytes ml R (pc, L, .int x :: S, A, c, n) q := by
  by_cases h : ¬ x = 0
  · exact Sim.tr (s_if_ne_t hd h ho hp) (ht h)
  · exact Sim.tr (s_if_ne_f hd (Classical.not_not.mp h)) (hf (Classical.not_not.mp h))
theorem EndsE.icmp_ne {o : Int} {x y : Int32} (hd : decode bytes pc = .ok (.if_icmp .ne o, 3)) (ho : 0 ≤ (pc : Int) + o) (hp : ((pc : Int) + o).toNat = pc') (ht : ¬ x = y → EndsE l Z K ρ own mn bytes ml R ret (pc', L, S, A, c, n) v) (hf : x = y → EndsE l Z K ρ own mn bytes ml R ret (pc + 3, L, S, A, c, n) v) : EndsE l Z K ρ own mn bytes ml R ret (pc, L, .int y :: .int x :: S, A, c, n) v := by
  by_cases h : ¬ x = y
  · exact EndsE.st (s_icmp_ne_t hd h ho hp) (ht h)
  · exact EndsE.st (s_icmp_ne_f hd (Classical.not_not.mp h)) (hf (Classical.not_not.mp h))
theorem EndsE.if_ne {o : Int} {x : Int32} (hd : decode bytes pc = .ok (.ifCond .ne o, 3)) (ho : 0 ≤ (pc : Int) + o) (hp : ((pc : Int) + o).toNat = pc') (ht : ¬ x = 0 → EndsE l Z K ρ own mn bytes ml R ret (pc', L, S, A, c, n) v) (hf : x = 0 → EndsE l Z K ρ own mn bytes ml R ret (pc + 3, L, S, A, c, n) v) : EndsE l Z K ρ own mn bytes ml R ret (pc, L, .int x :: S, A, c, n) v := by
  by_cases h : ¬ x = 0
  · exact EndsE.st (s_if_ne_t hd h ho hp) (ht h)
  · exact EndsE.st (s_if_ne_f hd (Classical.not_not.mp h)) (hf (Classical.not_not.mp h))
theorem s_icmp_lt_t {o : Int} {x y : Int32} (hd : decode bytes pc = .ok (.if_icmp .lt o, 3)) (h : x < y) (ho : 0 ≤ (pc : Int) + o) (hp : ((pc : Int) + o).toNat = pc') : Sim l Z K ρ own mn bytes ml R (pc, L, .int y :: .int x :: S, A, c, n) (pc', L, S, A, c, n) :=
  Sim.pure rfl fun p e s m args below meth cd T locs X hx hZ hby hown target k => XS.icmpYes X.here hx rfl rfl (hb hby hd) rfl (tlt h).1 ho hp k
theorem s_icmp_lt_f {o : Int} {x y : Int32} (hd : decode bytes pc = .ok (.if_icmp .lt o, 3)) (h : ¬ x < y) : Sim l Z K ρ own mn bytes ml R (pc, L, .int y :: .int x :: S, A, c, n) (pc + 3, L, S, A, c, n) :=
  Sim.pure rfl fun p e s m args below meth cd T locs X hx hZ hby hown target k => XS.icmpNo X.here hx rfl (hb hby hd) rfl (flt h).1 k
theorem s_if_lt_t {o : Int} {x : Int32} (hd : decode bytes pc = .ok (.ifCond .lt o, 3)) (h : x < 0) (ho : 0 ≤ (pc : Int) + o) (hp : ((pc : Int) + o).toNat = pc') : Sim l Z K ρ own mn bytes ml R (pc, L, .int x :: S, A, c, n) (pc', L, S, A, c, n) :=
  Sim.pure rfl fun p e s m args below meth cd T locs X hx hZ hby hown target k => XS.ifYes X.here hx rfl rfl (hb hby hd) rfl ((if0 _ _).trans (tlt h).1) ho hp k
theorem s_if_lt_f {o : Int} {x : Int32} (hd : decode bytes pc = .ok (.ifCond .lt o, 3)) (h : ¬ x < 0) : Sim l Z K ρ own mn bytes ml R (pc, L, .int x :: S, A, c, n) (pc + 3, L, S, A, c, n) :=
  Sim.pure rfl fun p e s m args below meth cd T locs X hx hZ hby hown target k => XS.ifNo X.here hx rfl (hb hby hd) rfl ((if0 _ _).trans (flt h).1) k
theorem Ends.icmp_lt {o : Int} {x y : Int32} (hd : decode bytes pc = .ok (.if_icmp .lt o, 3)) (ho : 0 ≤ (pc : Int) + o) (hp : ((pc : Int) + o).toNat = pc') (ht : x < y → Ends l Z K ρ own mn bytes ml R ret (pc', L, S, A, c, n) v A') (hf : ¬ x < y → Ends l Z K ρ own mn bytes ml R ret (pc + 3, L, S, A, c, n) v A') : Ends l Z K ρ own mn bytes ml R ret (pc, L, .int y :: .int x :: S, A, c, n) v A' := by
  by_cases h : x < y
  · exact Ends.st (s_icmp_lt_t hd h ho hp) (ht h)
  · exact Ends.st (s_icmp_lt_f hd h) (hf h)
theorem Ends.if_lt {o : Int} {x : Int32} (hd : decode bytes pc = .ok (.ifCond .lt o, 3)) (ho : 0 ≤ (pc : Int) + o) (hp : ((pc : Int) + o).toNat = pc') (ht : x < 0 → Ends l Z K ρ own mn bytes ml R ret (pc', L, S, A, c, n) v A') (hf : ¬ x < 0 → Ends l Z K ρ own mn bytes ml R ret (pc + 3, L, S, A, c, n) v A') : Ends l Z K ρ own mn bytes ml R ret (pc, L, .int x :: S, A, c, n) v A' := by
  by_cases h : x < 0
  · exact Ends.st (s_if_lt_t hd h ho hp) (ht h)
  · exact Ends.st (s_if_lt_f hd h) (hf h)
theorem Sim.icmp_lt {q : oS} {o : Int} {x y : Int32} (hd : decode bytes pc = .ok (.if_icmp .lt o, 3)) (ho : 0 ≤ (pc : Int) + o) (hp : ((pc : Int) + o).toNat = pc') (ht : x < y → Sim l Z K ρ own mn bytes ml R (pc', L, S, A, c, n) q) (hf : ¬ x < y → Sim l Z K ρ own mn bytes ml R (pc + 3, L, S, A, c, n) q) : Sim l Z K ρ own mn bytes ml R (pc, L, .int y :: .int x :: S, A, c, n) q := by
  by_cases h : x < y
  · exact Sim.tr (s_icmp_lt_t hd h ho hp) (ht h)
  · exact Sim.tr (s_icmp_lt_f hd h) (hf h)
theorem Sim.if_lt {q : oS} {o : Int} {x : Int32} (hd : decode bytes pc = .ok (.ifCond .lt o, 3)) (ho : 0 ≤ (pc : Int) + o) (hp : ((pc : Int) + o).toNat = pc') (ht : x < 0 → Sim l Z K ρ own mn bytes ml R (pc', L, S, A, c, n) q) (hf : ¬ x < 0 → Sim l Z K ρ own mn bytes ml R (pc + 3, L, S, A, c, n) q) : Sim l Z K ρ own mn bytes ml R (pc, L, .int x :: S, A, c, n) q := by
  by_cases h : x < 0
  · exact Sim.tr (s_if_lt_t hd h ho hp) (ht h)
  · exact Sim.tr (s_if_lt_f hd h) (hf h)
theorem EndsE.icmp_lt {o : Int} {x y : Int32} (hd : decode bytes pc = .ok (.if_icmp .lt o, 3)) (ho : 0 ≤ (pc : Int) + o) (hp : ((pc : Int) + o).toNat = pc') (ht : x < y → EndsE l Z K ρ own mn bytes ml R ret (pc', L, S, A, c, n) v) (hf : ¬ x < y → EndsE l Z K ρ own mn bytes ml R ret (pc + 3, L, S, A, c, n) v) : EndsE l Z K ρ own mn bytes ml R ret (pc, L, .int y :: .int x :: S, A, c, n) v := by
  by_cases h : x < y
  · exact EndsE.st (s_icmp_lt_t hd h ho hp) (ht h)
  · exact EndsE.st (s_icmp_lt_f hd h) (hf h)
theorem EndsE.if_lt {o : Int} {x : Int32} (hd : decode bytes pc = .ok (.ifCond .lt o, 3)) (ho : 0 ≤ (pc : Int) + o) (hp : ((pc : Int) + o).toNat = pc') (ht : x < 0 → EndsE l Z K ρ own mn bytes ml R ret (pc', L, S, A, c, n) v) (hf : ¬ x < 0 → EndsE l Z K ρ own mn bytes ml R ret (pc + 3, L, S, A, c, n) v) : EndsE l Z K ρ own mn bytes ml R ret (pc, L, .int x :: S, A, c, n) v := by
  by_cases h : x < 0
  · exact EndsE.st (s_if_lt_t hd h ho hp) (ht h)
  · exact EndsE.st (s_if_lt_f hd h) (hf h)
theorem s_icmp_ge_t {o : Int} {x y : Int32} (hd : decode bytes pc = .ok (.if_icmp .ge o, 3)) (h : ¬ x < y) (ho : 0 ≤ (pc : Int) + o) (hp : ((pc : Int) + o).toNat = pc') : Sim l Z K ρ own mn bytes ml R (pc, L, .int y :: .int x :: S, A, c, n) (pc', L, S, A, c, n) :=
  Sim.pure rfl fun p e s m args below meth cd T locs X hx hZ hby hown target k => XS.icmpYes X.here hx rfl rfl (hb hby hd) rfl (flt h).2.1 ho hp k
theorem s_icmp_ge_f {o : Int} {x y : Int32} (hd : decode bytes pc = .ok (.if_icmp .ge o, 3)) (h : x < y) : Sim l Z K ρ own mn bytes ml R (pc, L, .int y :: .int x :: S, A, c, n) (pc + 3, L, S, A, c, n) :=
  Sim.pure rfl fun p e s m args below meth cd T locs X hx hZ hby hown target k => XS.icmpNo X.here hx rfl (hb hby hd) rfl (tlt h).2.1 k
theorem s_if_ge_t {o : Int} {x : Int32} (hd : decode bytes pc = .ok (.ifCond .ge o, 3)) (h : ¬ x < 0) (ho : 0 ≤ (pc : Int) + o) (hp : ((pc : Int) + o).toNat = pc') : Sim l Z K ρ own mn bytes ml R (pc, L, .int x :: S, A, c, n) (pc', L, S, A, c, n) :=
  Sim.pure rfl fun p e s m args below meth cd T locs X hx hZ hby hown target k => XS.ifYes X.here hx rfl rfl (hb hby hd) rfl ((if0 _ _).trans (flt h).2.1) ho hp k
theorem s_if_ge_f {o : Int} {x : Int32} (hd : decode bytes pc = .ok (.ifCond .ge o, 3)) (h : x < 0) : Sim l Z K ρ own mn bytes ml R (pc, L, .int x :: S, A, c, n) (pc + 3, L, S, A, c, n) :=
  Sim.pure rfl fun p e s m args below meth cd T locs X hx hZ hby hown target k => XS.ifNo X.here hx rfl (hb hby hd) rfl ((if0 _ _).trans (tlt h).2.1) k
theorem Ends.icmp_ge {o : Int} {x y : Int32} (hd : decode bytes pc = .ok (.if_icmp .ge o, 3)) (ho : 0 ≤ (pc : Int) + o) (hp : ((pc : Int) + o).toNat = pc') (ht : ¬ x < y → Ends l Z K ρ own mn bytes ml R ret (pc', L, S, A, c, n) v A') (hf : x < y → Ends l Z K ρ own mn bytes ml R ret (pc + 3, L, S, A, c, n) v A') : Ends l Z K ρ own mn bytes ml R ret (pc, L, .int y :: .int x :: S, A, c, n) v A' := by
  by_cases h : ¬ x < y
  · exact Ends.st (s_icmp_ge_t hd h ho hp) (ht h)
  · exact Ends.st (s_icmp_ge_f hd (Classical.not_not.mp h)) (hf (Classical.not_not.mp h))
theorem Ends.if_ge {o : Int} {x : Int32} (hd : decode bytes pc = .ok (.ifCond .ge o, 3)) (ho : 0 ≤ (pc : Int) + o) (hp : ((pc : Int) + o).toNat = pc') (ht : ¬ x < 0 → Ends l Z K ρ own mn bytes ml R ret (pc', L, S, A, c, n) v A') (hf : x < 0 → Ends l Z K ρ own mn bytes ml R ret (pc + 3, L, S, A, c, n) v A') : Ends l Z K ρ own mn bytes ml R ret (pc, L, .int x :: S, A, c, n) v A' := by
  by_cases h : ¬ x < 0
  · exact Ends.st (s_if_ge_t hd h ho hp) (ht h)
  · exact Ends.st (s_if_ge_f hd (Classical.not_not.mp h)) (hf (Classical.not_not.mp h))
theorem Sim.icmp_ge {q : oS} {o : Int} {x y : Int32} (hd : decode bytes pc = .ok (.if_icmp .ge o, 3)) (ho : 0 ≤ (pc : Int) + o) (hp : ((pc : Int) + o).toNat = pc') (ht : ¬ x < y → Sim l Z K ρ own mn bytes ml R (pc', L, S, A, c, n) q) (hf : x < y → Sim l Z K ρ own mn bytes ml R (pc + 3, L, S, A, c, n) q) : Sim l Z K ρ own mn bytes ml R (pc, L, .int y :: .int x :: S, A, c, n) q := by
  by_cases h : ¬ x < y
  · exact Sim.tr (s_icmp_ge_t hd h ho hp) (ht h)
  · exact Sim.tr (s_icmp_ge_f hd (Classical.not_not.mp h)) (hf (Classical.not_not.mp h))
theorem Sim.if_ge {q : oS} {o : Int} {x : Int32} (hd : decode bytes pc = .ok (.ifCond .ge o, 3)) (ho : 0 ≤ (pc : Int) + o) (hp : ((pc : Int) + o).toNat = pc') (ht : ¬ x < 0 → Sim l Z K ρ own mn bytes ml R (pc', L, S, A, c, n) q) (hf : x < 0 → Sim l Z K ρ own mn bytes ml R (pc + 3, L, S, A, c, n) q) : Sim l Z K ρ own mn bytes ml R (pc, L, .int x :: S, A, c, n) q := by
  by_cases h : ¬ x < 0
  · exact Sim.tr (s_if_ge_t hd h ho hp) (ht h)
  · exact Sim.tr (s_if_ge_f hd (Classical.not_not.mp h)) (hf (Classical.not_not.mp h))
theorem EndsE.icmp_ge {o : Int} {x y : Int32} (hd : decode bytes pc = .ok (.if_icmp .ge o, 3)) (ho : 0 ≤ (pc : Int) + o) (hp : ((pc : Int) + o).toNat = pc') (ht : ¬ x < y → EndsE l Z K ρ own mn bytes ml R ret (pc', L, S, A, c, n) v) (hf : x < y → EndsE l Z K ρ own mn bytes ml R ret (pc + 3, L, S, A, c, n) v) : EndsE l Z K ρ own mn bytes ml R ret (pc, L, .int y :: .int x :: S, A, c, n) v := by
  by_cases h : ¬ x < y
  · exact EndsE.st (s_icmp_ge_t hd h ho hp) (ht h)
  · exact EndsE.st (s_icmp_ge_f hd (Classical.not_not.mp h)) (hf (Classical.not_not.mp h))
theorem EndsE.if_ge {o : Int} {x : Int32} (hd : decode bytes pc = .ok (.ifCond .ge o, 3)) (ho : 0 ≤ (pc : Int) + o) (hp : ((pc : Int) + o).toNat = pc') (ht : ¬ x < 0 → EndsE l Z K ρ own mn bytes ml R ret (pc', L, S, A, c, n) v) (hf : x < 0 → EndsE l Z K ρ own mn bytes ml R ret (pc + 3, L, S, A, c, n) v) : EndsE l Z K ρ own mn bytes ml R ret (pc, L, .int x :: S, A, c, n) v := by
  by_cases h : ¬ x < 0
  · exact EndsE.st (s_if_ge_t hd h ho hp) (ht h)
  · exact EndsE.st (s_if_ge_f hd (Classical.not_not.mp h)) (hf (Classical.not_not.mp h))
theorem s_icmp_gt_t {o : Int} {x y : Int32} (hd : decode bytes pc = .ok (.if_icmp .gt o, 3)) (h : y < x) (ho : 0 ≤ (pc : Int) + o) (hp : ((pc : Int) + o).toNat = pc') : Sim l Z K ρ own mn bytes ml R (pc, L, .int y :: .int x :: S, A, c, n) (pc', L, S, A, c, n) :=
  Sim.pure rfl fun p e s m args below meth cd T locs X hx hZ hby hown target k => XS.icmpYes X.here hx rfl rfl (hb hby hd) rfl (tlt h).2.2.1 ho hp k
theorem s_icmp_gt_f {o : Int} {x y : Int32} (hd : decode bytes pc = .ok (.if_icmp .gt o, 3)) (h : ¬ y < x) : Sim l Z K ρ own mn bytes ml R (pc, L, .int y :: .int x :: S, A, c, n) (pc + 3, L, S, A, c, n) :=
  Sim.pure rfl fun p e s m args below meth cd T locs X hx hZ hby hown target k => XS.icmpNo X.here hx rfl (hb hby hd) rfl (flt h).2.2.1 k
theorem s_if_gt_t {o : Int} {x : Int32} (hd : decode bytes pc = .ok (.ifCond .gt o, 3)) (h : 0 < x) (ho : 0 ≤ (pc : Int) + o) (hp : ((pc : Int) + o).toNat = pc') : Sim l Z K ρ own mn bytes ml R (pc, L, .int x :: S, A, c, n) (pc', L, S, A, c, n) :=
  Sim.pure rfl fun p e s m args below meth cd T locs X hx hZ hby hown target k => XS.ifYes X.here hx rfl rfl (hb hby hd) rfl ((if0 _ _).trans (tlt h).2.2.1) ho hp k
theorem s_if_gt_f {o : Int} {x : Int32} (hd : decode bytes pc = .ok (.ifCond .gt o, 3)) (h : ¬ 0 < x) : Sim l Z K ρ own mn bytes ml R (pc, L, .int x :: S, A, c, n) (pc + 3, L, S, A, c, n) :=
  Sim.pure rfl fun p e s m args below meth cd T locs X hx hZ hby hown target k => XS.ifNo X.here hx rfl (hb hby hd) rfl ((if0 _ _).trans (flt h).2.2.1) k
theorem Ends.icmp_gt {o : Int} {x y : Int32} (hd : decode bytes pc = .ok (.if_icmp .gt o, 3)) (ho : 0 ≤ (pc : Int) + o) (hp : ((pc : Int) + o).toNat = pc') (ht : y < x → Ends l Z K ρ own mn bytes ml R ret (pc', L, S, A, c, n) v A') (hf : ¬ y < x → Ends l Z K ρ own mn bytes ml R ret (pc + 3, L, S, A, c, n) v A') : Ends l Z K ρ own mn bytes ml R ret (pc, L, .int y :: .int x :: S, A, c, n) v A' := by
  by_cases h : y < x
  · exact Ends.st (s_icmp_gt_t hd h ho hp) (ht h)
  · exact Ends.st (s_icmp_gt_f hd h) (hf h)
theorem Ends.if_gt {o : Int} {x : Int32} (hd : decode bytes pc = .ok (.ifCond .gt o, 3)) (ho : 0 ≤ (pc : Int) + o) (hp : ((pc : Int) + o).toNat = pc') (ht : 0 < x → Ends l Z K ρ own mn bytes ml R ret (pc', L, S, A, c, n) v A') (hf : ¬ 0 < x → Ends l Z K ρ own mn bytes ml R ret (pc + 3, L, S, A, c, n) v A') : Ends l Z K ρ own mn bytes ml R ret (pc, L, .int x :: S, A, c, n) v A' := by
  by_cases h : 0 < x
  · exact Ends.st (s_if_gt_t hd h ho hp) (ht h)
  · exact Ends.st (s_if_gt_f hd h) (hf h)
theorem Sim.icmp_gt {q : oS} {o : Int} {x y : Int32} (hd : decode bytes pc = .ok (.if_icmp .gt o, 3)) (ho : 0 ≤ (pc : Int) + o) (hp : ((pc : Int) + o).toNat = pc') (ht : y < x → Sim l Z K ρ own mn bytes ml R (pc', L, S, A, c, n) q) (hf : ¬ y < x → Sim l Z K ρ own mn bytes ml R (pc + 3, L, S, A, c, n) q) : Sim l Z K ρ own mn bytes ml R (pc, L, .int y :: .int x :: S, A, c, n) q := by
  by_cases h : y < x
  · exact Sim.tr (s_icmp_gt_t hd h ho hp) (ht h)
  · exact Sim.tr (s_icmp_gt_f hd h) (hf h)
theorem Sim.if_gt {q : oS} {o : Int} {x : Int32} (hd : decode bytes pc = .ok (.ifCond .gt o, 3)) (ho : 0 ≤ (pc : Int) + o) (hp : ((pc : Int) + o).toNat = pc') (ht : 0 < x → Sim l Z K ρ own mn bytes ml R (pc', L, S, A, c, n) q) (hf : ¬ 0 < x → Sim l Z K ρ own mn bytes ml R (pc + 3, L, S, A, c, n) q) : Sim l Z K ρ own mn bytes ml R (pc, L, .int x :: S, A, c, n) q := by
  by_cases h : 0 < x
  · exact Sim.tr (s_if_gt_t hd h ho hp) (ht h)
  · exact Sim.tr (s_if_gt_f hd h) (hf h)
theorem EndsE.icmp_gt {o : Int} {x y : Int32} (hd : decode bytes pc = .ok (.if_icmp .gt o, 3)) (ho : 0 ≤ (pc : Int) + o) (hp : ((pc : Int) + o).toNat = pc') (ht : y < x → EndsE l Z K ρ own mn bytes ml R ret (pc', L, S, A, c, n) v) (hf : ¬ y < x → EndsE l Z K ρ own mn bytes ml R ret (pc + 3, L, S, A, c, n) v) : EndsE l Z K ρ own mn bytes ml R ret (pc, L, .int y :: .int x :: S, A, c, n) v := by
  by_cases h : y < x
  · exact EndsE.st (s_icmp_gt_t hd h ho hp) (ht h)
  · exact EndsE.st (s_icmp_gt_f hd h) (hf h)
theorem EndsE.if_gt {o : Int} {x : Int32} (hd : decode bytes pc = .ok (.ifCond .gt o, 3)) (ho : 0 ≤ (pc : Int) + o) (hp : ((pc : Int) + o).toNat = pc') (ht : 0 < x → EndsE l Z K ρ own mn bytes ml R ret (pc', L, S, A, c, n) v) (hf : ¬ 0 < x → EndsE l Z K ρ own mn bytes ml R ret (pc + 3, L, S, A, c, n) v) : EndsE l Z K ρ own mn bytes ml R ret (pc, L, .int x :: S, A, c, n) v := by
  by_cases h : 0 < x
  · exact EndsE.st (s_if_gt_t hd h ho hp) (ht h)
  · exact EndsE.st (s_if_gt_f hd h) (hf h)
theorem s_icmp_le_t {o : Int} {x y : Int32} (hd : decode bytes pc = .ok (.if_icmp .le o, 3)) (h : ¬ y < x) (ho : 0 ≤ (pc : Int) + o) (hp : ((pc : Int) + o).toNat = pc') : Sim l Z K ρ own mn bytes ml R (pc, L, .int y :: .int x :: S, A, c, n) (pc', L, S, A, c, n) :=
  Sim.pure rfl fun p e s m args below meth cd T locs X hx hZ hby hown target k => XS.icmpYes X.here hx rfl rfl (hb hby hd) rfl (flt h).2.2.2 ho hp k
theorem s_icmp_le_f {o : Int} {x y : Int32} (hd : decode bytes pc = .ok (.if_icmp .le o, 3)) (h : y < x) : Sim l Z K ρ own mn bytes ml R (pc, L, .int y :: .int x :: S, A, c, n) (pc + 3, L, S, A, c, n) :=
  Sim.pure rfl fun p e s m args below meth cd T locs X hx hZ hby hown target k => XS.icmpNo X.here hx rfl (hb hby hd) rfl (tlt h).2.2.2 k
theorem s_if_le_t {o : Int} {x : Int32} (hd : decode bytes pc = .ok (.ifCond .le o, 3)) (h : ¬ 0 < x) (ho : 0 ≤ (pc : Int) + o) (hp : ((pc : Int) + o).toNat = pc') : Sim l Z K ρ own mn bytes ml R (pc, L, .int x :: S, A, c, n) (pc', L, S, A, c, n) :=
  Sim.pure rfl fun p e s m args below meth cd T locs X hx hZ hby hown target k => XS.ifYes X.here hx rfl rfl (hb hby hd) rfl ((if0 _ _).trans (flt h).2.2.2) ho hp k
theorem s_if_le_f {o : Int} {x : Int32} (hd : decode bytes pc = .ok (.ifCond .le o, 3)) (h : 0 < x) : Sim l Z K ρ own mn bytes ml R (pc, L, .int x :: S, A, c, n) (pc + 3, L, S, A, c, n) :=
  Sim.pure rfl fun p e s m args below meth cd T locs X hx hZ hby hown target k => XS.ifNo X.here hx rfl (hb hby hd) rfl ((if0 _ _).trans (tlt h).2.2.2) k
theorem Ends.icmp_le {o : Int} {x y : Int32} (hd : decode bytes pc = .ok (.if_icmp .le o, 3)) (ho : 0 ≤ (pc : Int) + o) (hp : ((pc : Int) + o).toNat = pc') (ht : ¬ y < x → Ends l Z K ρ own mn bytes ml R ret (pc', L, S, A, c, n) v A') (hf : y < x → Ends l Z K ρ own mn bytes ml R ret (pc + 3, L, S, A, c, n) v A') : Ends l Z K ρ own mn bytes ml R ret (pc, L, .int y :: .int x :: S, A, c, n) v A' := by
  by_cases h : ¬ y < x
  · exact Ends.st (s_icmp_le_t hd h ho hp) (ht h)
  · exact Ends.st (s_icmp_le_f hd (Classical.not_not.mp h)) (hf (Classical.not_not.mp h))
theorem Ends.if_le {o : Int} {x : Int32} (hd : decode bytes pc = .ok (.ifCond .le o, 3)) (ho : 0 ≤ (pc : Int) + o) (hp : ((pc : Int) + o).toNat = pc') (ht : ¬ 0 < x → Ends l Z K ρ own mn bytes ml R ret (pc', L, S, A, c, n) v A') (hf : 0 < x → Ends l Z K ρ own mn bytes ml R ret (pc + 3, L, S, A, c, n) v A') : Ends l Z K ρ own mn bytes ml R ret (pc, L, .int x :: S, A, c, n) v A' := by
  by_cases h : ¬ 0 < x
  · exact Ends.st (s_if_le_t hd h ho hp) (ht h)
  · exact Ends.st (s_if_le_f hd (Classical.not_not.mp h)) (hf (Classical.not_not.mp h))
theorem Sim.icmp_le {q : oS} {o : Int} {x y : Int32} (hd : decode bytes pc = .ok (.if_icmp .le o, 3)) (ho : 0 ≤ (pc : Int) + o) (hp : ((pc : Int) + o).toNat = pc') (ht : ¬ y < x → Sim l Z K ρ own mn bytes ml R (pc', L, S, A, c, n) q) (hf : y < x → Sim l Z K ρ own mn bytes ml R (pc + 3, L, S, A, c, n) q) : Sim l Z K ρ own mn bytes ml R (pc, L, .int y :: .int x :: S, A, c, n) q := by
  by_cases h : ¬ y < x
  · exact Sim.tr (s_icmp_le_t hd h ho hp) (ht h)
  · exact Sim.tr (s_icmp_le_f hd (Classical.not_not.mp h)) (hf (Classical.not_not.mp h))
theorem Sim.if_le {q : oS} {o : Int} {x : Int32} (hd : decode bytes pc = .ok (.ifCond .le o, 3)) (ho : 0 ≤ (pc : Int) + o) (hp : ((pc : Int) + o).toNat = pc') (ht : ¬ 0 < x → Sim l Z K ρ own mn bytes ml R (pc', L, S, A, c, n) q) (hf : 0 < x → Sim l Z K ρ own mn bytes ml R (pc + 3, L, S, A, c, n) q) : Sim l Z K ρ own mn bytes ml R (pc, L, .int x :: S, A, c, n) q := by
  by_cases h : ¬ 0 < x
  · exact Sim.tr (s_if_le_t hd h ho hp) (ht h)
  · exact Sim.tr (s_if_le_f hd (Classical.not_not.mp h)) (hf (Classical.not_not.mp h))
theorem EndsE.icmp_le {o : Int} {x y : Int32} (hd : decode bytes pc = .ok (.if_icmp .le o, 3)) (ho : 0 ≤ (pc : Int) + o) (hp : ((pc : Int) + o).toNat = pc') (ht : ¬ y < x → EndsE l Z K ρ own mn bytes ml R ret (pc', L, S, A, c, n) v) (hf : y < x → EndsE l Z K ρ own mn bytes ml R ret (pc + 3, L, S, A, c, n) v) : EndsE l Z K ρ own mn bytes ml R ret (pc, L, .int y :: .int x :: S, A, c, n) v := by
  by_cases h : ¬ y < x
  · exact EndsE.st (s_icmp_le_t hd h ho hp) (ht h)
  · exact EndsE.st (s_icmp_le_f hd (Classical.not_not.mp h)) (hf (Classical.not_not.mp h))
theorem EndsE.if_le {o : Int} {x : Int32} (hd : decode bytes pc = .ok (.ifCond .le o, 3)) (ho : 0 ≤ (pc : Int) + o) (hp : ((pc : Int) + o).toNat = pc') (ht : ¬ 0 < x → EndsE l Z K ρ own mn bytes ml R ret (pc', L, S, A, c, n) v) (hf : 0 < x → EndsE l Z K ρ own mn bytes ml R ret (pc + 3, L, S, A, c, n) v) : EndsE l Z K ρ own mn bytes ml R ret (pc, L, .int x :: S, A, c, n) v := by
  by_cases h : ¬ 0 < x
  · exact EndsE.st (s_if_le_t hd h ho hp) (ht h)
  · exact EndsE.st (s_if_le_f hd (Classical.not_not.mp h)) (hf (Classical.not_not.mp h))
theorem s_ifnull_t {o : Int} (hd : decode bytes pc = .ok (.ifnull o, 3)) (ho : 0 ≤ (pc : Int) + o) (hp : ((pc : Int) + o).toNat = pc') : Sim l Z K ρ own mn bytes ml R (pc, L, .null :: S, A, c, n) (pc', L, S, A, c, n) :=
  Sim.pure rfl fun p e s m args below meth cd T locs X hx hZ hby hown target k => XS.ifnullYes X.here hx rfl rfl (hb hby hd) rfl ho hp k
theorem s_ifnull_f {o : Int} {j : Addr} (hd : decode bytes pc = .ok (.ifnull o, 3)) : Sim l Z K ρ own mn bytes ml R (pc, L, .ref j :: S, A, c, n) (pc + 3, L, S, A, c, n) :=
  Sim.pure rfl fun p e s m args below meth cd T locs X hx hZ hby hown target k => XS.ifnullNo X.here hx rfl (hb hby hd) rfl k
theorem oRep.arr {h : Heap} {j : Nat} {ty : FieldType} {vs : List Value} (H : oRep Z K ρ h A) (hA : A[j]? = some (.inr (ty, vs))) : (vs.length < 2 ^ 31 ∧ ∀ w ∈ vs, fits ty (ov ρ w) = true) ∧ ∃ cl : Cell, Arr Z h (ρ.1 j) cl ty ∧ cl.slots = (vs.map (ov ρ)).toArray := H.2 j _ hA
theorem oin {cl : Cell} {vs : List Value} {i : Int32} {w : Value} (e : cl.slots = (vs.map (ov ρ)).toArray) (h0 : ¬ i < 0) (hv : vs[i.toNatClampNeg]? = some w) : ¬ (i < 0 ∨ cl.slots.size ≤ i.toNatClampNeg) ∧ cl.slots[i.toNatClampNeg]? = some (ov ρ w) := by
  have hi := (List.getElem?_eq_some_iff.mp hv).1
  refine ⟨fun q => q.elim h0 fun q => ?_, ?_⟩
  · rw [e] at q; simp at q; omega
  · rw [e]; simp [hv]
theorem olen {vs : List Value} (h : vs.length < 2 ^ 31) {cl : Cell} (e : cl.slots = (vs.map (ov ρ)).toArray) : cl.slots.size.toInt32 = Int32.ofNat vs.length := by
  rw [e]; simp [Nat.toInt32]
theorem s_arraylength {j : Addr} {ty : FieldType} {vs : List Value} (hd : decode bytes pc = .ok (.arraylength, 1)) (hA : A[j]? = some (.inr (ty, vs))) : Sim l Z K ρ own mn bytes ml R (pc, L, .ref j :: S, A, c, n) (pc + 1, L, .int (Int32.ofNat vs.length) :: S, A, c, n) :=
  fun p e s m args below meth cd T locs X hx hZ hby hml hown hnm hR hF hL => by
    obtain ⟨h1, cl, h2, h3⟩ := hR.arr hA
    exact ⟨T, locs, X, hR, hF, hL, fun target k => X.arraylength hx h2.1 (State.isArrayOf_alike hZ.alike h2.2.1) (g := oF ρ m (pc, L, .ref j :: S, A, c, n)) rfl rfl (hb hby hd) target (by rw [olen h1.1 h3]; exact k)⟩
theorem s_iaload {j : Addr} {vs : List Value} {i : Int32} {w : Value} (hd : decode bytes pc = .ok (.iaload, 1)) (hA : A[j]? = some (.inr (.int, vs))) (h0 : ¬ i < 0) (hv : vs[i.toNatClampNeg]? = some w) : Sim l Z K ρ own mn bytes ml R (pc, L, .int i :: .ref j :: S, A, c, n) (pc + 1, L, w :: S, A, c, n) :=
  fun p e s m args below meth cd T locs X hx hZ hby hml hown hnm hR hF hL => by
    obtain ⟨h1, cl, h2, h3⟩ := hR.arr hA
    obtain ⟨q1, q2⟩ := oin h3 h0 hv
    exact ⟨T, locs, X, hR, hF, hL, fun target k => X.iaload hx h2.1 (State.isArrayOf_alike hZ.alike h2.2.1) h2.2.2 q1 q2 (g := oF ρ m (pc, L, .int i :: .ref j :: S, A, c, n)) rfl rfl (hb hby hd) target k⟩
theorem s_laload {j : Addr} {vs : List Value} {i : Int32} {w : Value} (hd : decode bytes pc = .ok (.laload, 1)) (hA : A[j]? = some (.inr (.long, vs))) (h0 : ¬ i < 0) (hv : vs[i.toNatClampNeg]? = some w) : Sim l Z K ρ own mn bytes ml R (pc, L, .int i :: .ref j :: S, A, c, n) (pc + 1, L, w :: S, A, c, n) :=
  fun p e s m args below meth cd T locs X hx hZ hby hml hown hnm hR hF hL => by
    obtain ⟨h1, cl, h2, h3⟩ := hR.arr hA
    obtain ⟨q1, q2⟩ := oin h3 h0 hv
    exact ⟨T, locs, X, hR, hF, hL, fun target k => X.laload hx h2.1 (State.isArrayOf_alike hZ.alike h2.2.1) h2.2.2 q1 q2 (g := oF ρ m (pc, L, .int i :: .ref j :: S, A, c, n)) rfl rfl (hb hby hd) target k⟩
theorem s_baload {j : Addr} {vs : List Value} {i : Int32} {w : Value} (hd : decode bytes pc = .ok (.baload, 1)) (hA : A[j]? = some (.inr (.byte, vs))) (h0 : ¬ i < 0) (hv : vs[i.toNatClampNeg]? = some w) : Sim l Z K ρ own mn bytes ml R (pc, L, .int i :: .ref j :: S, A, c, n) (pc + 1, L, w :: S, A, c, n) :=
  fun p e s m args below meth cd T locs X hx hZ hby hml hown hnm hR hF hL => by
    obtain ⟨h1, cl, h2, h3⟩ := hR.arr hA
    obtain ⟨q1, q2⟩ := oin h3 h0 hv
    exact ⟨T, locs, X, hR, hF, hL, fun target k => X.baloadBytes hx h2.1 (State.isArrayOf_alike hZ.alike h2.2.1) h2.2.2 q1 q2 (g := oF ρ m (pc, L, .int i :: .ref j :: S, A, c, n)) rfl rfl (hb hby hd) target k⟩
theorem s_caload {j : Addr} {vs : List Value} {i : Int32} {w : Value} (hd : decode bytes pc = .ok (.caload, 1)) (hA : A[j]? = some (.inr (.char, vs))) (h0 : ¬ i < 0) (hv : vs[i.toNatClampNeg]? = some w) : Sim l Z K ρ own mn bytes ml R (pc, L, .int i :: .ref j :: S, A, c, n) (pc + 1, L, w :: S, A, c, n) :=
  fun p e s m args below meth cd T locs X hx hZ hby hml hown hnm hR hF hL => by
    obtain ⟨h1, cl, h2, h3⟩ := hR.arr hA
    obtain ⟨q1, q2⟩ := oin h3 h0 hv
    exact ⟨T, locs, X, hR, hF, hL, fun target k => X.caload hx h2.1 (State.isArrayOf_alike hZ.alike h2.2.1) h2.2.2 q1 q2 (g := oF ρ m (pc, L, .int i :: .ref j :: S, A, c, n)) rfl rfl (hb hby hd) target k⟩
theorem s_aaload {j : Addr} {vs : List Value} {i : Int32} {w : Value} {ty : FieldType} (hd : decode bytes pc = .ok (.aaload, 1)) (hA : A[j]? = some (.inr (ty, vs))) (hty : ty.isReference = true) (h0 : ¬ i < 0) (hv : vs[i.toNatClampNeg]? = some w) : Sim l Z K ρ own mn bytes ml R (pc, L, .int i :: .ref j :: S, A, c, n) (pc + 1, L, w :: S, A, c, n) :=
  fun p e s m args below meth cd T locs X hx hZ hby hml hown hnm hR hF hL => by
    obtain ⟨h1, cl, h2, h3⟩ := hR.arr hA
    obtain ⟨q1, q2⟩ := oin h3 h0 hv
    exact ⟨T, locs, X, hR, hF, hL, fun target k => X.aaload hx h2.1 (State.isArrayOf_alike hZ.alike h2.2.1) hty h2.2.2 q1 q2 (g := oF ρ m (pc, L, .int i :: .ref j :: S, A, c, n)) rfl rfl (hb hby hd) target k⟩
theorem oRep.arrSet {h h' : Heap} {j : Nat} {ty : FieldType} {vs : List Value} {i : Nat} {w : Value} (H : oRep Z K ρ h A) (hA : A[j]? = some (.inr (ty, vs))) (hft : fits ty (ov ρ w) = true) (W : Wr h h' (ρ.1 j) i (ov ρ w)) : oRep Z K ρ h' (A.set j (.inr (ty, vs.set i w))) := by
  obtain ⟨h1, cl, h2, h3⟩ := H.arr hA
  refine H.wr W ⟨⟨by simpa using h1.1, fun u hu => (List.mem_or_eq_of_mem_set hu).elim (h1.2 u) (fun q => q ▸ hft)⟩, cl.setSlot i (ov ρ w), h2.same W, ?_⟩
  show cl.slots.setIfInBounds i (ov ρ w) = _
  rw [h3]; simp
theorem s_iastore {j : Addr} {vs : List Value} {i : Int32} {x : Int32} (hd : decode bytes pc = .ok (.iastore, 1)) (hA : A[j]? = some (.inr (.int, vs))) (h0 : ¬ i < 0) (hi : i.toNatClampNeg < vs.length) (hA' : A.set j (.inr (.int, vs.set i.toNatClampNeg (.int x))) = A') : Sim l Z K ρ own mn bytes ml R (pc, L, .int x :: .int i :: .ref j :: S, A, c, n) (pc + 1, L, S, A', c, n) :=
  fun p e s m args below meth cd T locs X hx hZ hby hml hown hnm hR hF hL => by
    obtain ⟨h1, cl, h2, h3⟩ := hR.arr hA
    have q1 : ¬ (i < 0 ∨ cl.slots.size ≤ i.toNatClampNeg) := fun q => q.elim h0 fun q => by rw [h3] at q; simp at q; omega
    obtain ⟨T', h', X', e', W, st⟩ := stI X hx hZ rfl h2 q1 (g := oF ρ m (pc, L, .int x :: .int i :: .ref j :: S, A, c, n)) rfl rfl (hb hby hd)
    subst e' hA'
    exact ⟨T', _, X', hR.arrSet (w := .int x) hA rfl W, Fr.snoc X' hF (hR.ge j), hL, st⟩
theorem s_lastore {j : Addr} {vs : List Value} {i : Int32} {x : Int64} (hd : decode bytes pc = .ok (.lastore, 1)) (hA : A[j]? = some (.inr (.long, vs))) (h0 : ¬ i < 0) (hi : i.toNatClampNeg < vs.length) (hA' : A.set j (.inr (.long, vs.set i.toNatClampNeg (.long x))) = A') : Sim l Z K ρ own mn bytes ml R (pc, L, .long x :: .int i :: .ref j :: S, A, c, n) (pc + 1, L, S, A', c, n) :=
  fun p e s m args below meth cd T locs X hx hZ hby hml hown hnm hR hF hL => by
    obtain ⟨h1, cl, h2, h3⟩ := hR.arr hA
    have q1 : ¬ (i < 0 ∨ cl.slots.size ≤ i.toNatClampNeg) := fun q => q.elim h0 fun q => by rw [h3] at q; simp at q; omega
    obtain ⟨T', h', X', e', W, st⟩ := stJ X hx hZ rfl h2 q1 (g := oF ρ m (pc, L, .long x :: .int i :: .ref j :: S, A, c, n)) rfl rfl (hb hby hd)
    subst e' hA'
    exact ⟨T', _, X', hR.arrSet (w := .long x) hA rfl W, Fr.snoc X' hF (hR.ge j), hL, st⟩
theorem s_bastore {j : Addr} {vs : List Value} {i : Int32} {x : Int32} (hd : decode bytes pc = .ok (.bastore, 1)) (hA : A[j]? = some (.inr (.byte, vs))) (h0 : ¬ i < 0) (hi : i.toNatClampNeg < vs.length) (hA' : A.set j (.inr (.byte, vs.set i.toNatClampNeg (.int x.toInt8.toInt32))) = A') : Sim l Z K ρ own mn bytes ml R (pc, L, .int x :: .int i :: .ref j :: S, A, c, n) (pc + 1, L, S, A', c, n) :=
  fun p e s m args below meth cd T locs X hx hZ hby hml hown hnm hR hF hL => by
    obtain ⟨h1, cl, h2, h3⟩ := hR.arr hA
    have q1 : ¬ (i < 0 ∨ cl.slots.size ≤ i.toNatClampNeg) := fun q => q.elim h0 fun q => by rw [h3] at q; simp at q; omega
    obtain ⟨T', h', X', e', W, st⟩ := stB X hx hZ rfl h2 q1 (g := oF ρ m (pc, L, .int x :: .int i :: .ref j :: S, A, c, n)) rfl rfl (hb hby hd)
    subst e' hA'
    exact ⟨T', _, X', hR.arrSet (w := .int x.toInt8.toInt32) hA (fits_nar_byte x) W, Fr.snoc X' hF (hR.ge j), hL, st⟩
theorem s_castore {j : Addr} {vs : List Value} {i : Int32} {x : Int32} (hd : decode bytes pc = .ok (.castore, 1)) (hA : A[j]? = some (.inr (.char, vs))) (h0 : ¬ i < 0) (hi : i.toNatClampNeg < vs.length) (hA' : A.set j (.inr (.char, vs.set i.toNatClampNeg (.int (nar .char x)))) = A') : Sim l Z K ρ own mn bytes ml R (pc, L, .int x :: .int i :: .ref j :: S, A, c, n) (pc + 1, L, S, A', c, n) :=
  fun p e s m args below meth cd T locs X hx hZ hby hml hown hnm hR hF hL => by
    obtain ⟨h1, cl, h2, h3⟩ := hR.arr hA
    have q1 : ¬ (i < 0 ∨ cl.slots.size ≤ i.toNatClampNeg) := fun q => q.elim h0 fun q => by rw [h3] at q; simp at q; omega
    obtain ⟨T', h', X', e', W, st⟩ := stC X hx hZ rfl h2 q1 (g := oF ρ m (pc, L, .int x :: .int i :: .ref j :: S, A, c, n)) rfl rfl (hb hby hd)
    subst e' hA'
    exact ⟨T', _, X', hR.arrSet (w := .int (nar .char x)) hA (fits_nar_char x) W, Fr.snoc X' hF (hR.ge j), hL, st⟩
theorem oRep.obj {h : Heap} {j cid : Nat} {vs : List Value} (H : oRep Z K ρ h A) (hA : A[j]? = some (.inl (cid, vs))) : Exa Z h (ρ.1 j) (K cid).1 ∧ ∀ (i : Nat) (f : String × String × String) (v : Value), (K cid).2[i]? = some f → vs[i]? = some v → Fld Z h (ρ.1 j) f.1 f.2.1 f.2.2 (ov ρ v) := H.2 j _ hA
theorem s_getfield {j : Addr} {cid i x : Nat} {vs : List Value} {w : Value} {O nm d : String} (wl : (Jvm.Cond.fieldLink own x O nm d).before a0 Z = true) (hf : (K cid).2[i]? = some (O, nm, d)) (hd : decode bytes pc = .ok (.getfield x, 3)) (hA : A[j]? = some (.inl (cid, vs))) (hv : vs[i]? = some w) : Sim l Z K ρ own mn bytes ml R (pc, L, .ref j :: S, A, c, n) (pc + 3, L, w :: S, A, c, n) :=
  fun p e s m args below meth cd T locs X hx hZ hby hml hown hnm hR hF hL => by
    have F := (hR.obj hA).2 i _ _ hf hv
    obtain ⟨T', X', e', st⟩ := getF X hx hZ hown (host := "") (Or.inl wl) Via.refl rfl F (g := oF ρ m (pc, L, .ref j :: S, A, c, n)) rfl rfl (hb hby hd)
    exact ⟨T', locs, X', by rw [e']; exact hR, hF, hL, st⟩
theorem oRep.fldSet {h h' : Heap} {j cid i : Nat} {vs : List Value} {f : String × String × String} {w old : Value} (H : oRep Z K ρ h A) (hK : oKOk Z a0 K cid) (hA : A[j]? = some (.inl (cid, vs))) (hf : (K cid).2[i]? = some f) (ho : vs[i]? = some old) (W : Wr h h' (ρ.1 j) (Jvm.RoadKit.slotOf Z f.1 f.2.1 f.2.2) (ov ρ w)) : oRep Z K ρ h' (A.set j (.inl (cid, vs.set i w))) := by
  obtain ⟨h1, h2⟩ := H.obj hA
  refine H.wr W ⟨h1.wr W, fun k g u hg hu => ?_⟩
  by_cases q : k = i
  · subst q
    have hg' : (K cid).2[k]? = some g := hg
    rw [hf] at hg'; cases hg'
    have hu' : (vs.set k w)[k]? = some u := hu
    rw [List.getElem?_set_self (List.getElem?_eq_some_iff.mp ho).1] at hu'; cases hu'
    exact (h2 k f old hf ho).same W
  · have hu' : (vs.set i w)[k]? = some u := hu
    rw [List.getElem?_set_ne (Ne.symm q)] at hu'
    have hg' : (K cid).2[k]? = some g := hg
    obtain ⟨l1, t1, p1⟩ := hK.1.at k g hg'
    obtain ⟨l2, t2, p2⟩ := hK.1.at i f hf
    exact (h2 k g u hg' hu').other W (Or.inr (slot_ne l1 l2 (hK.2 k i g f hg' hf q) p1 p2))
theorem s_putfield {j : Addr} {cid i x kk : Nat} {vs : List Value} {w old : Value} {O nm d : String} {ty : FieldType} (wl : (Jvm.Cond.fieldLink own x O nm d).before a0 Z = true) (hK : oKOk Z a0 K cid) (hf : (K cid).2[i]? = some (O, nm, d))
    (lay : (Jvm.Cond.lays (K cid).1 O nm d).before a0 Z = true ∨ ((Jvm.Cond.laysFinal (K cid).1 O nm d).before a0 Z = true ∧ own = O ∧ mn = "<init>")) (wi : (Jvm.Cond.instantiable (K cid).1 kk).before a0 Z = true) (hty : parseFieldDescriptor d = some ty) (hn : narrow ty (ov ρ w) = ov ρ w) (hft : fits ty (ov ρ w) = true)
    (hd : decode bytes pc = .ok (.putfield x, 3)) (hA : A[j]? = some (.inl (cid, vs))) (ho : vs[i]? = some old) (hA' : A.set j (.inl (cid, vs.set i w)) = A') : Sim l Z K ρ own mn bytes ml R (pc, L, w :: .ref j :: S, A, c, n) (pc + 3, L, S, A', c, n) :=
  fun p e s m args below meth cd T locs X hx hZ hby hml hown hnm hR hF hL => by
    have F := (hR.obj hA).2 i _ _ hf ho
    obtain ⟨T', h', X', e', W, st⟩ := putF X hx hZ hown (host := "") (Or.inl wl) Via.refl rfl F (hR.obj hA).1 (lay.imp id fun q => ⟨q.1, q.2.1, hnm.trans q.2.2⟩) wi hty hn hft (g := oF ρ m (pc, L, w :: .ref j :: S, A, c, n)) rfl rfl (hb hby hd)
    subst e' hA'
    exact ⟨T', _, X', hR.fldSet hK hA hf ho W, Fr.snoc X' hF (hR.ge j), hL, st⟩
theorem s_putfieldZ {j : Addr} {cid i x kk : Nat} {vs : List Value} {u u' : Int32} {old : Value} {O nm : String} (wl : (Jvm.Cond.fieldLink own x O nm "Z").before a0 Z = true) (hK : oKOk Z a0 K cid) (hf : (K cid).2[i]? = some (O, nm, "Z"))
    (lay : (Jvm.Cond.lays (K cid).1 O nm "Z").before a0 Z = true ∨ ((Jvm.Cond.laysFinal (K cid).1 O nm "Z").before a0 Z = true ∧ own = O ∧ mn = "<init>")) (wi : (Jvm.Cond.instantiable (K cid).1 kk).before a0 Z = true) (hu : u &&& 1 = u')
    (hd : decode bytes pc = .ok (.putfield x, 3)) (hA : A[j]? = some (.inl (cid, vs))) (ho : vs[i]? = some old) (hA' : A.set j (.inl (cid, vs.set i (.int u'))) = A') : Sim l Z K ρ own mn bytes ml R (pc, L, .int u :: .ref j :: S, A, c, n) (pc + 3, L, S, A', c, n) :=
  fun p e s m args below meth cd T locs X hx hZ hby hml hown hnm hR hF hL => by
    have F := (hR.obj hA).2 i _ _ hf ho
    obtain ⟨T', h', X', e', W, st⟩ := putFN X hx hZ hown wl Via.refl rfl F (hR.obj hA).1 (lay.imp id fun q => ⟨q.1, q.2.1, hnm.trans q.2.2⟩) wi (ty := .boolean) (v' := .int (nar .boolean u)) (by decide) rfl (fits_nar_bool u) (g := oF ρ m (pc, L, .int u :: .ref j :: S, A, c, n)) rfl rfl (hb hby hd)
    subst e' hA' hu
    exact ⟨T', _, X', hR.fldSet (w := .int (u &&& 1)) hK hA hf ho W, Fr.snoc X' hF (hR.ge j), hL, st⟩
theorem opush_ext (h : Heap) (cl : Cell) : Ext h (h.push cl) := ⟨by simp, fun a d q => by rw [Array.getElem?_push_lt (Array.getElem?_eq_some_iff.mp q).1]; exact (Array.getElem?_eq_getElem _).symm.trans q⟩
theorem opush_at (h : Heap) (cl : Cell) : (h.push cl)[h.size]? = some cl := by simp
theorem s_new {cid x sz j : Nat} {vs : List Value} (wl : (Jvm.Cond.classLink own x (K cid).1).before a0 Z = true) (wi : (Jvm.Cond.instantiable (K cid).1 sz).before a0 Z = true) (wz : (Jvm.Cond.initialized (K cid).1).before a0 Z = true) (hK : oKOk Z a0 K cid) (hv : oDflt (K cid).2 vs)
    (hd : decode bytes pc = .ok (.new x, 3)) (hj : A.length = j) (hc : c + 1 ≤ R.cells) (hn : n + sz ≤ R.slots) (hA' : A ++ [.inl (cid, vs)] = A') : Sim l Z K ρ own mn bytes ml R (pc, L, S, A, c, n) (pc + 3, L, .ref j :: S, A', c + 1, n + sz) :=
  fun p e s m args below meth cd T locs X hx hZ hby hml hown hnm hR hF hL => by
    obtain ⟨vm', cC, kC, h1, h2, h3, h4, X', st⟩ := X.newCold hx hown (mv hZ wl) (mv hZ wi) (mv hZ wz) (g := oF ρ m (pc, L, S, A, c, n)) rfl (hb hby hd) hc hn
    subst hA' hj
    rw [hZ.alike.findClass] at h1
    obtain ⟨kZ, z1, -⟩ := Vm.findClass_spec h1
    obtain ⟨k', z2, z3⟩ := hZ.alike.2.2 _ _ z1
    cases h2.symm.trans z2
    have ei : kC.instanceTypes = kZ.instanceTypes := by rw [z3]
    have hN := opush_at T.heap { cls := cC, slots := kC.instanceTypes.map defaultValue, vm := .none }
    have hrep := hR.push (opush_ext T.heap { cls := cC, slots := kC.instanceTypes.map defaultValue, vm := .none }) (by simp) (c := .inl (cid, vs)) ⟨⟨_, kZ, hN, h1, z1, rfl, fun _ => by simp [ei]⟩, fun i f w hf hw => by
      obtain ⟨t, ht, rfl⟩ := hv.at i f w hf hw
      obtain ⟨lf, -⟩ := hK.1.at i f hf
      obtain ⟨c1, k1, cf, kf, i', f', a1, a2, a3, a4, a5, a6, -⟩ := lf.spec
      cases h1.symm.trans a1
      cases z1.symm.trans a2
      rw [ov_dflt]
      exact ⟨_, cf, kf, i', f', hN, a3, a4, by simp, rfl, a5, by simp [ei, a6, (State.fieldFound?_type a3 ht).2]⟩⟩
    refine ⟨_, locs, X', hrep, hF, hL, fun target k => st target ?_⟩
    have e0 : T.heap.size = ρ.1 A.length := hR.1.1
    rw [e0]; exact k
theorem s_newarray {aty : ArrayType} {i : Int32} {j q cap : Nat} (w : (Jvm.Cond.arrayClass (newarray.typeOf aty)).before a0 Z = true) (hd : decode bytes pc = .ok (.newarray aty, 2)) (hj : A.length = j) (h0 : ¬ i < 0) (hq : i.toNatClampNeg = q) (hcap : q ≤ cap) (hb8 : cap * 8 ≤ 536870912) (hc : c + 1 ≤ R.cells) (hn : n + cap ≤ R.slots)
    (hA' : A ++ [.inr (newarray.typeOf aty, List.replicate q (defaultValue (newarray.typeOf aty)))] = A') : Sim l Z K ρ own mn bytes ml R (pc, L, .int i :: S, A, c, n) (pc + 2, L, .ref j :: S, A', c + 1, n + cap) :=
  fun p e s m args below meth cd T locs X hx hZ hby hml hown hnm hR hF hL => by
    have hcb : componentBytes (newarray.typeOf aty) ≤ 8 := by cases aty <;> decide
    subst hq
    obtain ⟨cA, kA, comp, h1, h2, h3, X', st⟩ := X.newarrayPrim hx (mvA hZ w) (g := oF ρ m (pc, L, .int i :: S, A, c, n)) rfl (hb hby hd) rfl h0 (Nat.le_trans (Nat.mul_le_mul hcap hcb) hb8) hc (by show n + _ ≤ _; omega)
    subst hA' hj
    rw [hZ.alike.findClass] at h1
    obtain ⟨kZ, z1, -⟩ := Vm.findClass_spec h1
    obtain ⟨k', z2, z3⟩ := hZ.alike.2.2 _ _ z1
    cases h2.symm.trans z2
    have hrep := hR.push (opush_ext T.heap { cls := cA, slots := Array.replicate i.toNatClampNeg (defaultValue (newarray.typeOf aty)), vm := .none }) (by simp) (c := .inr (newarray.typeOf aty, List.replicate i.toNatClampNeg (defaultValue (newarray.typeOf aty)))) ⟨⟨by show (List.replicate _ _).length < 2 ^ 31; rw [List.length_replicate]; omega, fun u hu => by rw [(List.mem_replicate.mp hu).2, ov_dflt]; cases aty <;> rfl⟩, _, ⟨opush_at _ _, ⟨by simp, kZ, z1, comp, by rw [← h3, z3]⟩, by simp⟩, by simp [ov_dflt]⟩
    refine ⟨_, locs, X'.more (Nat.le_refl _) (by show n + _ ≤ n + cap; omega), hrep, hF, hL, fun target k => st target ?_⟩
    have e0 : T.heap.size = ρ.1 A.length := hR.1.1
    rw [e0]; exact k
theorem s_anewarray {C : String} {x : Nat} {i : Int32} {j q : Nat} (w1 : (Jvm.Cond.classLink own x C).before a0 Z = true) (w2 : (Jvm.Cond.arrayOver (.object C)).before a0 Z = true) (hd : decode bytes pc = .ok (.anewarray x, 3)) (hj : A.length = j) (h0 : ¬ i < 0) (hq : i.toNatClampNeg = q) (hb8 : q * 8 ≤ 536870912) (hc : c + 1 ≤ R.cells) (hn : n + q ≤ R.slots)
    (hA' : A ++ [.inr (.object C, List.replicate q .null)] = A') : Sim l Z K ρ own mn bytes ml R (pc, L, .int i :: S, A, c, n) (pc + 3, L, .ref j :: S, A', c + 1, n + q) :=
  fun p e s m args below meth cd T locs X hx hZ hby hml hown hnm hR hF hL => by
    have w2' : (Jvm.Cond.arrayOver (.object C)).before args s = true := Cond.arrayOver_alike hZ.alike w2
    subst hq
    obtain ⟨vm₁, cA, kA, comp, -, h1, h2, h3, h4, X', st⟩ := X.anewarrayRefK hx hown (mv hZ w1) w2' (g := oF ρ m (pc, L, .int i :: S, A, c, n)) rfl (hb hby hd) rfl h0 (by omega) hc hn
    subst hA' hj
    rw [hZ.alike.findClass] at h1
    obtain ⟨kZ, z1, -⟩ := Vm.findClass_spec h1
    obtain ⟨k', z2, z3⟩ := hZ.alike.2.2 _ _ z1
    cases h2.symm.trans z2
    have kk : kZ.kind = .array comp (.object C) := by rw [← h3, z3]
    have hrep := hR.push (opush_ext T.heap { cls := cA, slots := Array.replicate i.toNatClampNeg .null, vm := .none }) (by simp) (c := .inr (.object C, List.replicate i.toNatClampNeg .null)) ⟨⟨by show (List.replicate _ _).length < 2 ^ 31; rw [List.length_replicate]; omega, fun u hu => by rw [(List.mem_replicate.mp hu).2]; rfl⟩, _, ⟨opush_at _ _, ⟨by simp, kZ, z1, comp, kk⟩, by simp⟩, by simp [ov]⟩
    refine ⟨_, locs, X', hrep, hF, hL, fun target k => st target ?_⟩
    have e0 : T.heap.size = ρ.1 A.length := hR.1.1
    rw [e0]; exact k
theorem s_initO {x W : Nat} {j : Addr} (w1 : (Jvm.Cond.methodLink own x Lib.objectInit).before a0 Z = true) (w2 : (Jvm.Cond.instanceMethod Lib.objectInit).before a0 Z = true) (w3 : (Jvm.Cond.code Lib.objectInit ⟨#[0xb1]⟩ 1 none).before a0 Z = true) (hd : decode bytes pc = .ok (.invokespecial x, 3)) (hf : 1 ≤ R.frames) (hW : (S.map fun v => v.category).sum = W) (hl : W + 12 ≤ R.locals) : Sim l Z K ρ own mn bytes ml R (pc, L, .ref j :: S, A, c, n) (pc + 3, L, S, A, c, n) :=
  fun p e s m args below meth cd T locs X hx hZ hby hml hown hnm hR hF hL => by
    obtain ⟨T', X', e', st⟩ := initO X hx hZ hown w1 w2 w3 rfl (g := oF ρ m (pc, L, .ref j :: S, A, c, n)) rfl (by rw [hml, ← hL]; simp) rfl (hb hby hd) hf (W := W) (by rw [← hW]; simp [Function.comp_def, ov_cat]) hl
    exact ⟨T', locs, X', by rw [e']; exact hR, hF, hL, st⟩
theorem ocat (S : List Value) : ((S.map (ov ρ)).map fun v => v.category).sum = (S.map fun v => v.category).sum := by simp [Function.comp_def, ov_cat]
theorem otl (v : Option Value) : (v.map (ov ρ)).toList = v.toList.map (ov ρ) := by cases v <;> rfl
theorem s_callS {x W : Nat} {y : MethodName} {by' : ByteArray} {ml' : Nat} {rt : Option FieldType} {rm : Room} {as : List Value} {S0 : List Value} (w1 : (Jvm.Cond.methodLink own x y).before a0 Z = true) (w2 : (Jvm.Cond.static y).before a0 Z = true) (w3 : (Jvm.Cond.initialized y.cls).before a0 Z = true) (w4 : (Jvm.Cond.code y by' ml' rt).before a0 Z = true)
    (hy : y.cls ≠ "java/lang/invoke/MethodHandle" ∧ y.cls ≠ "java/lang/invoke/VarHandle") (hlen : ∀ sig, parseMethodDescriptor y.desc = some sig → as.length = sig.parameters.length) (hd : decode bytes pc = .ok (.invokestatic x, 3)) (hM : Met l Z K ρ y by' ml' rt rm [] as A v A')
    (hS : S0 = as.reverse ++ S) (hW : (S.map fun v => v.category).sum = W) (hf : rm.frames + 1 ≤ R.frames) (hl : W + (ml' + 11) + rm.locals ≤ R.locals) (hc : c + rm.cells ≤ R.cells) (hn : n + rm.slots ≤ R.slots) : Sim l Z K ρ own mn bytes ml R (pc, L, S0, A, c, n) (pc + 3, L, v.toList ++ S, A', c + rm.cells, n + rm.slots) :=
  fun p e s m args below meth cd T locs X hx hZ hby hml hown hnm hR hF hL => by
    subst hS
    obtain ⟨_, _, ⟨T1, L1, k1, n1⟩, -, X1, ⟨Lc, hQ, l1, y1, z1⟩, st⟩ := Jvm.LawKit.callS X hx (y := y) hown (mvT hZ w1) (mvT hZ w2) (mvT hZ w3) (mvT hZ w4) hy (backOf (W := W) (Q := fun v' h L => v' = v.map (ov ρ) ∧ Fr (ρ.1 0) L ∧ oRep Z K ρ h A') (hM T.heap hR) hZ w4 w3 hf hl) (g := oF ρ m (pc, L, as.reverse ++ S, A, c, n)) rfl (by rw [hml, ← hL]; simp) (argsL := as.map (ov ρ)) (rest := S.map (ov ρ)) (fun sig q => by rw [List.length_map]; exact hlen sig q) (by show (as.reverse ++ S).map (ov ρ) = _; simp) (by show 2 * 0 + _ ≤ _; rw [ocat, hW]; omega) (hb hby hd) (fun _ _ => ⟨rfl, rfl, hc, hn⟩)
    dsimp only [Pt.U, Pt.locs, Pt.cells, Pt.slots] at X1 l1 y1 z1 st hQ
    subst l1 y1 z1
    obtain ⟨rfl, N1, R1⟩ := hQ
    refine ⟨T1, _, X1, R1, Fr.app hF N1, hL, fun target k => st target ?_⟩
    have e : (v.toList ++ S).map (ov ρ) = (v.map (ov ρ)).toList ++ S.map (ov ρ) := by rw [List.map_append, otl]
    rw [← e]; exact k
theorem s_callI {x W : Nat} {y : MethodName} {by' : ByteArray} {ml' : Nat} {rm : Room} {as : List Value} {j : Addr} {S0 : List Value} (hy1 : y.name = "<init>") (w1 : (Jvm.Cond.methodLink own x y).before a0 Z = true) (w2 : (Jvm.Cond.instanceMethod y).before a0 Z = true) (w3 : (Jvm.Cond.initialized y.cls).before a0 Z = true) (w4 : (Jvm.Cond.code y by' ml' none).before a0 Z = true)
    (hy : y.cls ≠ "java/lang/invoke/MethodHandle" ∧ y.cls ≠ "java/lang/invoke/VarHandle") (hlen : ∀ sig, parseMethodDescriptor y.desc = some sig → as.length = sig.parameters.length) (hd : decode bytes pc = .ok (.invokespecial x, 3)) (hM : Met l Z K ρ y by' ml' none rm [] (.ref j :: as) A v A')
    (hS : S0 = as.reverse ++ .ref j :: S) (hW : (S.map fun v => v.category).sum = W) (hf : rm.frames + 1 ≤ R.frames) (hl : W + (ml' + 11) + rm.locals ≤ R.locals) (hc : c + rm.cells ≤ R.cells) (hn : n + rm.slots ≤ R.slots) : Sim l Z K ρ own mn bytes ml R (pc, L, S0, A, c, n) (pc + 3, L, v.toList ++ S, A', c + rm.cells, n + rm.slots) :=
  fun p e s m args below meth cd T locs X hx hZ hby hml hown hnm hR hF hL => by
    subst hS
    obtain ⟨_, _, ⟨T1, L1, k1, n1⟩, -, X1, ⟨Lc, hQ, l1, y1, z1⟩, st⟩ := X.specialBack hx (y := y) hy1 hown (mvT hZ w1) (mvT hZ w2) (mvT hZ w4) hy (backOf (W := W) (Q := fun v' h L => v' = v.map (ov ρ) ∧ Fr (ρ.1 0) L ∧ oRep Z K ρ h A') (hM T.heap hR) hZ w4 w3 hf hl) (g := oF ρ m (pc, L, as.reverse ++ .ref j :: S, A, c, n)) rfl (by rw [hml, ← hL]; simp) (Steps.refl _) (a := ρ.1 j) (argsL := as.map (ov ρ)) (rest := S.map (ov ρ)) (fun sig q => by rw [List.length_map]; exact hlen sig q) (by show (as.reverse ++ .ref j :: S).map (ov ρ) = _; simp [ov]) (by show 2 * 0 + _ ≤ _; rw [ocat, hW]; omega) (hb hby hd) (fun _ _ => ⟨rfl, rfl, hc, hn⟩)
    dsimp only [Pt.U, Pt.locs, Pt.cells, Pt.slots] at X1 l1 y1 z1 st hQ
    subst l1 y1 z1
    obtain ⟨rfl, N1, R1⟩ := hQ
    refine ⟨T1, _, X1, R1, Fr.app hF N1, hL, fun target k => st.trans ?_⟩
    have e : (v.toList ++ S).map (ov ρ) = (v.map (ov ρ)).toList ++ S.map (ov ρ) := by rw [List.map_append, otl]
    rw [← e]; exact k
theorem s_callV {x W cid : Nat} {y : MethodName} {by' : ByteArray} {ml' : Nat} {rt : Option FieldType} {rm : Room} {as : List Value} {j : Addr} {vs : List Value} {S0 : List Value} (w1 : (Jvm.Cond.methodLink own x y).before a0 Z = true) (w2 : (Jvm.Cond.instanceMethod y).before a0 Z = true) (w3 : (Jvm.Cond.initialized y.cls).before a0 Z = true) (w4 : (Jvm.Cond.code y by' ml' rt).before a0 Z = true)
    (w5 : (Jvm.Cond.declares y).before a0 Z = true) (w6 : (Jvm.Cond.selects (K cid).1 y y).before a0 Z = true) (hy : y.cls ≠ "java/lang/invoke/MethodHandle" ∧ y.cls ≠ "java/lang/invoke/VarHandle") (hC : (K cid).1 = y.cls) (hlen : ∀ sig, parseMethodDescriptor y.desc = some sig → as.length = sig.parameters.length) (hd : decode bytes pc = .ok (.invokevirtual x, 3)) (hA : A[j]? = some (.inl (cid, vs))) (hM : Met l Z K ρ y by' ml' rt rm [] (.ref j :: as) A v A')
    (hS : S0 = as.reverse ++ .ref j :: S) (hW : (S.map fun v => v.category).sum = W) (hf : rm.frames + 1 ≤ R.frames) (hl : W + (ml' + 11) + rm.locals ≤ R.locals) (hc : c + rm.cells ≤ R.cells) (hn : n + rm.slots ≤ R.slots) : Sim l Z K ρ own mn bytes ml R (pc, L, S0, A, c, n) (pc + 3, L, v.toList ++ S, A', c + rm.cells, n + rm.slots) :=
  fun p e s m args below meth cd T locs X hx hZ hby hml hown hnm hR hF hL => by
    subst hS
    obtain ⟨cq, kq, qa, qb, qc⟩ := isOf hZ rfl (hR.obj hA).1
    have w6' : (Jvm.Cond.selects y.cls y y).before a0 Z = true := by rw [← hC]; exact w6
    obtain ⟨_, _, ⟨T1, L1, k1, n1⟩, -, X1, ⟨Lc, hQ, l1, y1, z1⟩, st⟩ := X.virtualBack hx (y := y) (z := y) hown (mvT hZ w1) (mvT hZ w5) (notFace_of_selects (args := #[]) (mvT hZ w6')) (mvT hZ w6) (mvT hZ w2) hy (backOf (W := W) (Q := fun v' h L => v' = v.map (ov ρ) ∧ Fr (ρ.1 0) L ∧ oRep Z K ρ h A') (hM T.heap hR) hZ w4 w3 hf hl) qa qc (g := oF ρ m (pc, L, as.reverse ++ .ref j :: S, A, c, n)) rfl (by rw [hml, ← hL]; simp) (Steps.refl _) (argsL := as.map (ov ρ)) (rest := S.map (ov ρ)) (fun sig q => by rw [List.length_map]; exact hlen sig q) (by show (as.reverse ++ .ref j :: S).map (ov ρ) = _; simp [ov]) (by show 2 * 0 + _ ≤ _; rw [ocat, hW]; omega) (hb hby hd) (fun _ _ => ⟨rfl, rfl, hc, hn⟩)
    dsimp only [Pt.U, Pt.locs, Pt.cells, Pt.slots] at X1 l1 y1 z1 st hQ
    subst l1 y1 z1
    obtain ⟨rfl, N1, R1⟩ := hQ
    refine ⟨T1, _, X1, R1, Fr.app hF N1, hL, fun target k => st.trans ?_⟩
    have e : (v.toList ++ S).map (ov ρ) = (v.map (ov ρ)).toList ++ S.map (ov ρ) := by rw [List.map_append, otl]
    rw [← e]; exact k
theorem s_callP {x W cid kk : Nat} {y : MethodName} {by' : ByteArray} {ml' : Nat} {rt : Option FieldType} {rm : Room} {as : List Value} {j : Addr} {vs : List Value} {S0 : List Value} (w1 : (Jvm.Cond.methodLink own x y).before a0 Z = true) (w2 : (Jvm.Cond.instanceMethod y).before a0 Z = true) (w3 : (Jvm.Cond.initialized y.cls).before a0 Z = true) (w4 : (Jvm.Cond.code y by' ml' rt).before a0 Z = true)
    (w5 : (Jvm.Cond.privateMethod y).before a0 Z = true) (w6 : (Jvm.Cond.instantiable y.cls kk).before a0 Z = true) (hy : y.cls ≠ "java/lang/invoke/MethodHandle" ∧ y.cls ≠ "java/lang/invoke/VarHandle") (hlen : ∀ sig, parseMethodDescriptor y.desc = some sig → as.length = sig.parameters.length) (hd : decode bytes pc = .ok (.invokevirtual x, 3)) (hA : A[j]? = some (.inl (cid, vs))) (hM : Met l Z K ρ y by' ml' rt rm [] (.ref j :: as) A v A')
    (hS : S0 = as.reverse ++ .ref j :: S) (hW : (S.map fun v => v.category).sum = W) (hf : rm.frames + 1 ≤ R.frames) (hl : W + (ml' + 11) + rm.locals ≤ R.locals) (hc : c + rm.cells ≤ R.cells) (hn : n + rm.slots ≤ R.slots) : Sim l Z K ρ own mn bytes ml R (pc, L, S0, A, c, n) (pc + 3, L, v.toList ++ S, A', c + rm.cells, n + rm.slots) :=
  fun p e s m args below meth cd T locs X hx hZ hby hml hown hnm hR hF hL => by
    subst hS
    obtain ⟨cq, q1, q2⟩ := (hR.obj hA).1.cell
    have wi' : (Jvm.Cond.instantiable y.cls kk).before args s = true := mv hZ w6
    obtain ⟨c1, k1, f1, f2, -, f4, -⟩ := Cond.instantiable_spec wi'
    have hni : k1.isInterface = false := by cases q : k1.isInterface <;> simp [q] at f4 ⊢
    have hpv := Cond.privateMethod_at (mvP (args := args) hZ w5)
    have w2' : (Jvm.Cond.instanceMethod y).before args s = true := mvT hZ w2
    have w6' : (Jvm.Cond.selects y.cls y y).before args s = true := selects_self_of_private f1 f2 hni hpv w2' hy
    obtain ⟨_, _, ⟨T1, L1, k1, n1⟩, -, X1, ⟨Lc, hQ, l1, y1, z1⟩, st⟩ := X.privateBack hx (y := y) hown (mvT hZ w1) w2' w6' hpv (mvT hZ w4) hy (backOf (W := W) (Q := fun v' h L => v' = v.map (ov ρ) ∧ Fr (ρ.1 0) L ∧ oRep Z K ρ h A') (hM T.heap hR) hZ w4 w3 hf hl) (g := oF ρ m (pc, L, as.reverse ++ .ref j :: S, A, c, n)) rfl (by rw [hml, ← hL]; simp) (Steps.refl _) (a := ρ.1 j) q1 q2 (argsL := as.map (ov ρ)) (rest := S.map (ov ρ)) (fun sig q => by rw [List.length_map]; exact hlen sig q) (by show (as.reverse ++ .ref j :: S).map (ov ρ) = _; simp [ov]) (by show 2 * 0 + _ ≤ _; rw [ocat, hW]; omega) (hb hby hd) (fun _ _ => ⟨rfl, rfl, hc, hn⟩)
    dsimp only [Pt.U, Pt.locs, Pt.cells, Pt.slots] at X1 l1 y1 z1 st hQ
    subst l1 y1 z1
    obtain ⟨rfl, N1, R1⟩ := hQ
    refine ⟨T1, _, X1, R1, Fr.app hF N1, hL, fun target k => st.trans ?_⟩
    have e : (v.toList ++ S).map (ov ρ) = (v.map (ov ρ)).toList ++ S.map (ov ρ) := by rw [List.map_append, otl]
    rw [← e]; exact k
theorem orun1 (cl : Cell) (i : Nat) (w : Value) : cl.storeRun i [w] = cl.setSlot i w := rfl
theorem s_arraycopy1 {x W : Nat} {j k : Addr} {vs us : List Value} {sp dp : Int32} {w : Value} (w1 : (Jvm.Cond.methodLink own x Jvm.Stand.acN).before a0 Z = true) (w2 : (Jvm.Cond.native Jvm.Stand.acN).before a0 Z = true) (w3 : (Jvm.Cond.static Jvm.Stand.acN).before a0 Z = true) (w4 : (Jvm.Cond.initialized "java/lang/System").before a0 Z = true)
    (hd : decode bytes pc = .ok (.invokestatic x, 3)) (hA : A[j]? = some (.inr (.int, vs))) (hB : A[k]? = some (.inr (.int, us))) (h1 : ¬ sp < 0) (h2 : ¬ dp < 0) (hv : vs[sp.toNatClampNeg]? = some w) (hi : dp.toNatClampNeg < us.length) (hf : 1 ≤ R.frames) (hW : (S.map fun v => v.category).sum = W) (hl : W + 18 ≤ R.locals)
    (hA' : A.set k (.inr (.int, us.set dp.toNatClampNeg w)) = A') : Sim l Z K ρ own mn bytes ml R (pc, L, .int 1 :: .int dp :: .ref k :: .int sp :: .ref j :: S, A, c, n) (pc + 3, L, S, A', c, n) :=
  fun p e s m args below meth cd T locs X hx hZ hby hml hown hnm hR hF hL => by
    subst hA'
    obtain ⟨⟨a1, a1'⟩, cs, a2, a3⟩ := hR.arr hA
    obtain ⟨⟨b1, b1'⟩, ct, b2, b3⟩ := hR.arr hB
    obtain ⟨q1, q2⟩ := oin a3 h1 hv
    have hw : fits .int (ov ρ w) = true := a1' w (List.mem_of_getElem? hv)
    obtain ⟨z, ez⟩ := fit_I hw (Or.inl rfl)
    obtain ⟨os, ks, hks, sc, hsk⟩ := State.isArrayOf_alike hZ.alike a2.2.1
    obtain ⟨od, kd, hkd, dc, hdk⟩ := State.isArrayOf_alike hZ.alike b2.2.1
    have nat : ∀ {x : Int32}, ¬ x < 0 → x.toInt = x.toNatClampNeg := fun {x} q => by
      rw [Int32.lt_iff_toInt_lt] at q; have : (0 : Int32).toInt = 0 := rfl
      simp only [Int32.toNatClampNeg]; omega
    have sz1 : cs.slots.size = vs.length := by rw [a3]; simp
    have sz2 : ct.slots.size = us.length := by rw [b3]; simp
    have e1 : (1 : Int32).toInt = 1 := rfl
    have e1' : (1 : Int32).toNatClampNeg = 1 := rfl
    have hlt := (List.getElem?_eq_some_iff.mp hv).1
    have hgd : cs.slots.getD sp.toNatClampNeg .null = .int z := by rw [Array.getD_eq_getD_getElem?, q2, ez]; rfl
    have hst : cs.stretch sp.toNatClampNeg (1 : Int32).toNatClampNeg = [.int z] := by
      show [cs.slots.getD (sp.toNatClampNeg + 0) .null] = _
      rw [Nat.add_zero, hgd]
    obtain ⟨vm₁, hW₁, X', st⟩ := X.arraycopyK hx hown (mvT hZ w1) (mvT hZ w2) (mvT hZ w3) (mvT hZ w4) (srcPos := sp) (destPos := dp) (n := 1) a2.1 b2.1 os od a2.2.2 b2.2.2 hks hkd hsk hdk rfl h1 h2 (by decide)
      (by rw [nat h1, e1, sz1]; omega) (by rw [nat h2, e1, sz2]; omega) (fun vm hv i hi => by
        have hi0 : i = 0 := by rw [e1'] at hi; omega
        subst hi0
        rw [Nat.add_zero, hgd]; exact ⟨rfl, trivial⟩) (g := oF ρ m (pc, L, .int 1 :: .int dp :: .ref k :: .int sp :: .ref j :: S, A, c, n)) rfl (by rw [hml, ← hL]; simp) rfl (hb hby hd) hf (by show 2 * 0 + _ + (7 + 11) ≤ _; rw [ocat, hW]; omega)
    have ecp : copied cs ct sp dp 1 = ct.setSlot dp.toNatClampNeg (ov ρ w) := by
      show ct.storeRun _ (cs.stretch _ _) = _
      rw [hst, orun1, ez]
    rw [ecp] at X' st
    have hWr : Wr T.heap (T.heap.setIfInBounds (ρ.1 k) (ct.setSlot dp.toNatClampNeg (ov ρ w))) (ρ.1 k) dp.toNatClampNeg (ov ρ w) := ⟨ct, b2.1, b2.plain, by rw [sz2]; exact hi, rfl⟩
    refine ⟨_, _, X', hR.arrSet hB hw hWr, Fr.app hF fun y hy => ?_, hL, st⟩
    have := Jvm.Stand.copyLocs_base hy
    rw [this]; exact hR.ge k
/-! the returns -/
theorem e_return (hd : decode bytes pc = .ok (.return_, 1)) (hr : ret = none) (hc : c ≤ R.cells) (hn : n ≤ R.slots) : Ends l Z K ρ own mn bytes ml R ret (pc, L, [], A, c, n) none A :=
  fun p e s m args below meth cd T locs X hx hZ hby hml hown hnm hR hF hL hrt hlk => by
    obtain ⟨fs, hl, hrun, hended, hW, hsame⟩ := X.leave (v := none) (fun _ => rfl) hlk
    exact ⟨_, locs, X.returnOut hx (hrt.trans hr) (hb hby hd) hl, hrun, hended, hF, hR, hW, hsame.mono hc hn⟩
theorem e_ireturn {z : Int32} (hd : decode bytes pc = .ok (.ireturn, 1)) (hr : ret = some .int) (hc : c ≤ R.cells) (hn : n ≤ R.slots) : Ends l Z K ρ own mn bytes ml R ret (pc, L, .int z :: S, A, c, n) (some (.int z)) A :=
  fun p e s m args below meth cd T locs X hx hZ hby hml hown hnm hR hF hL hrt hlk => by
    obtain ⟨fs, hl, hrun, hended, hW, hsame⟩ := X.leave (v := some (.int z)) (fun h => by rw [hrt, hr] at h; cases h) hlk
    exact ⟨_, locs, retOut X hx (t := .int) (hrt.trans hr) rfl (Or.inl ⟨rfl, Or.inl rfl, z, rfl⟩) (hb hby hd) hl, hrun, hended, hF, hR, hW, hsame.mono hc hn⟩
theorem e_nreturn {z u : Int32} {t : FieldType} (hd : decode bytes pc = .ok (.ireturn, 1)) (hr : ret = some t) (ht : t = .boolean ∨ t = .byte ∨ t = .char ∨ t = .short) (hu : nar t z = u) (hc : c ≤ R.cells) (hn : n ≤ R.slots) : Ends l Z K ρ own mn bytes ml R ret (pc, L, .int z :: S, A, c, n) (some (.int u)) A :=
  fun p e s m args below meth cd T locs X hx hZ hby hml hown hnm hR hF hL hrt hlk => by
    subst hu
    obtain ⟨fs, hl, hrun, hended, hW, hsame⟩ := X.leave (v := some (.int (nar t z))) (fun h => by rw [hrt, hr] at h; cases h) hlk
    exact ⟨_, locs, retN X hx (t := t) (hrt.trans hr) ht (hb hby hd) hl, hrun, hended, hF, hR, hW, hsame.mono hc hn⟩
theorem e_lreturn {z : Int64} (hd : decode bytes pc = .ok (.lreturn, 1)) (hr : ret = some .long) (hc : c ≤ R.cells) (hn : n ≤ R.slots) : Ends l Z K ρ own mn bytes ml R ret (pc, L, .long z :: S, A, c, n) (some (.long z)) A :=
  fun p e s m args below meth cd T locs X hx hZ hby hml hown hnm hR hF hL hrt hlk => by
    obtain ⟨fs, hl, hrun, hended, hW, hsame⟩ := X.leave (v := some (.long z)) (fun h => by rw [hrt, hr] at h; cases h) hlk
    exact ⟨_, locs, retOut X hx (t := .long) (hrt.trans hr) rfl (Or.inr (Or.inl ⟨rfl, rfl, z, rfl⟩)) (hb hby hd) hl, hrun, hended, hF, hR, hW, hsame.mono hc hn⟩
theorem e_areturn {w : Value} {t : FieldType} (hd : decode bytes pc = .ok (.areturn, 1)) (hr : ret = some t) (ht : t.isReference = true) (hw : (ov ρ w).isRef = true) (hc : c ≤ R.cells) (hn : n ≤ R.slots) : Ends l Z K ρ own mn bytes ml R ret (pc, L, w :: S, A, c, n) (some w) A :=
  fun p e s m args below meth cd T locs X hx hZ hby hml hown hnm hR hF hL hrt hlk => by
    have hw' := hw
    obtain ⟨fs, hl, hrun, hended, hW, hsame⟩ := X.leave (v := some (ov ρ w)) (fun h => by rw [hrt, hr] at h; cases h) hlk
    exact ⟨_, locs, retOut X hx (t := t) (hrt.trans hr) (by cases t <;> first | rfl | cases ht) (Or.inr (Or.inr (Or.inr (Or.inr ⟨rfl, ht, hw'⟩)))) (hb hby hd) hl, hrun, hended, hF, hR, hW, hsame.mono hc hn⟩
/-! from the walk to the contract -/
def oE0 : List Value → List Slot
  | [] => []
  | v :: vs => if v.category = 2 then .val v :: .second :: oE0 vs else .val v :: oE0 vs
def oE (as : List Value) (ml : Nat) : List Slot := oE0 as ++ List.replicate (ml - (oE0 as).length) .unset
theorem oE0_ok (as : List Value) (acc : List Slot) : ((as.map (ov ρ)).toArray.foldl (init := acc.toArray) fun acc v => if v.category = 2 then (acc.push (.val v)).push .second else acc.push (.val v)) = (acc ++ (oE0 as).map (osl ρ)).toArray := by
  induction as generalizing acc with
  | nil => simp [oE0]
  | cons v vs ih =>
    have h := ih
    simp only [List.map_cons, List.foldl_toArray', List.foldl_cons, ov_cat] at h ⊢
    by_cases q : v.category = 2
    · have e : (acc.toArray.push (Slot.val (ov ρ v))).push .second = (acc ++ [Slot.val (ov ρ v), Slot.second]).toArray := by simp
      rw [if_pos q, e, h]; simp [oE0, q, osl]
    · have e : acc.toArray.push (Slot.val (ov ρ v)) = (acc ++ [Slot.val (ov ρ v)]).toArray := by simp
      rw [if_neg q, e, h]; simp [oE0, q, osl]
theorem oentry {as : List Value} {L0 : List Slot} (h : oE as ml = L0) (m : MethodId) : entryFrame m (as.map (ov ρ)).toArray ml = mkF m 0 (L0.map (osl ρ)).toArray [] := by
  subst h
  have e := oE0_ok (ρ := ρ) as []
  have q : argsToLocals (as.map (ov ρ)).toArray ml = ((oE as ml).map (osl ρ)).toArray := by
    have e' : ∀ X : Array Slot, X = (([] : List Slot) ++ (oE0 as).map (osl ρ)).toArray → X ++ Array.replicate (ml - X.size) Slot.unset = ((oE as ml).map (osl ρ)).toArray := fun X hX => by rw [hX]; simp [oE, osl]
    have e2 := e' _ e
    exact e2
  show ({ method := m, pc := 0, locals := argsToLocals _ ml, stack := [], locked := none } : JFrame) = _
  rw [q]
theorem Met.of {y : MethodName} {rm : Room} {ws : List Jvm.Cond} {as : List Value} {L0 : List Slot} (hp : plainFor y = true) (he : ∀ m, entryFrame m (as.map (ov ρ)).toArray ml = mkF m 0 (L0.map (osl ρ)).toArray []) (hL0 : L0.length = ml)
    (hE : Ends l Z K ρ y.cls y.name bytes ml rm ret (0, L0, [], A, 0, 0) v A') : Met l Z K ρ y bytes ml ret rm ws as A v A' := fun h0 hR0 => by
  refine MetFree.of_bodySF hp hisR ?_
  intro p e s m args below meth c s₁ Bd hml0 hP hK
  obtain ⟨rfl, hZ, hh⟩ := hP
  have hown : s.vm.findClass y.cls = some m.cls := findClass_of_methodNamed Bd.named
  have hnm := (name_of_methodNamed Bd.named Bd.method).1
  have X0 : Stand p l e rm s m (as.map (ov ρ)).toArray below meth c s₁ [] 0 0 := Stand.of_body Bd
  have e0 : s₁.heap = h0 := by rw [← hh, Bd.state]; rfl
  obtain ⟨s2, L, g1, g2, g3, g4, g5, g6, g7⟩ := hE p e s m _ below meth c s₁ [] X0 Bd.exec hZ Bd.bytes hml0 hown hnm (by show oRep Z K ρ s₁.heap A; rw [e0]; exact hR0) (Fr.nil _) hL0 Bd.returns Bd.notSynchronized
  refine ⟨s2, _, castTop (he m) g1, g2, g3, _, L, rfl, ⟨rfl, g4, g5⟩, ⟨_, rfl⟩, g6, g7⟩
theorem Met.ofE {y : MethodName} {rm : Room} {ws : List Jvm.Cond} {as : List Value} {L0 : List Slot} (hp : plainFor y = true) (he : ∀ m, entryFrame m (as.map (ov ρ)).toArray ml = mkF m 0 (L0.map (osl ρ)).toArray []) (hL0 : L0.length = ml)
    (hE : EndsE l Z K ρ y.cls y.name bytes ml rm ret (0, L0, [], A, 0, 0) v) : ∃ A', Met l Z K ρ y bytes ml ret rm ws as A v A' := hE.imp fun _ h => Met.of hp he hL0 h
end Layer

/-! ARITH: ints and longs by their unsigned numbers -/
def u32 (x : Int32) : Nat := x.toBitVec.toNat
def u64 (x : Int64) : Nat := x.toBitVec.toNat
theorem u32_lt (x : Int32) : u32 x < 4294967296 := x.toBitVec.isLt
theorem u64_lt (x : Int64) : u64 x < 18446744073709551616 := x.toBitVec.isLt
theorem u32_inj {x y : Int32} (h : u32 x = u32 y) : x = y := Int32.toBitVec_inj.mp (BitVec.eq_of_toNat_eq h)
theorem u64_inj {x y : Int64} (h : u64 x = u64 y) : x = y := Int64.toBitVec_inj.mp (BitVec.eq_of_toNat_eq h)
theorem u32_toInt (x : Int32) : x.toInt = if 2 * u32 x < 4294967296 then (u32 x : Int) else (u32 x : Int) - 4294967296 := BitVec.toInt_eq_toNat_cond x.toBitVec
theorem u64_toInt (x : Int64) : x.toInt = if 2 * u64 x < 18446744073709551616 then (u64 x : Int) else (u64 x : Int) - 18446744073709551616 := BitVec.toInt_eq_toNat_cond x.toBitVec
theorem u32_nn {x : Int32} (h : 0 ≤ x.toInt) : (u32 x : Int) = x.toInt := by have h1 := u32_toInt x; have := u32_lt x; split at h1 <;> omega
theorem u64_nn {x : Int64} (h : 0 ≤ x.toInt) : (u64 x : Int) = x.toInt := by have h1 := u64_toInt x; have := u64_lt x; split at h1 <;> omega
theorem u32_and (x y : Int32) : u32 (x &&& y) = u32 x &&& u32 y := by show (x &&& y).toBitVec.toNat = _; rw [Int32.toBitVec_and, BitVec.toNat_and]; rfl
theorem u32_or (x y : Int32) : u32 (x ||| y) = u32 x ||| u32 y := by show (x ||| y).toBitVec.toNat = _; rw [Int32.toBitVec_or, BitVec.toNat_or]; rfl
theorem u32_xor (x y : Int32) : u32 (x ^^^ y) = u32 x ^^^ u32 y := by show (x ^^^ y).toBitVec.toNat = _; rw [Int32.toBitVec_xor, BitVec.toNat_xor]; rfl
theorem u64_and (x y : Int64) : u64 (x &&& y) = u64 x &&& u64 y := by show (x &&& y).toBitVec.toNat = _; rw [Int64.toBitVec_and, BitVec.toNat_and]; rfl
theorem u64_or (x y : Int64) : u64 (x ||| y) = u64 x ||| u64 y := by show (x ||| y).toBitVec.toNat = _; rw [Int64.toBitVec_or, BitVec.toNat_or]; rfl
theorem u64_xor (x y : Int64) : u64 (x ^^^ y) = u64 x ^^^ u64 y := by show (x ^^^ y).toBitVec.toNat = _; rw [Int64.toBitVec_xor, BitVec.toNat_xor]; rfl
theorem u32_add (x y : Int32) : u32 (x + y) = (u32 x + u32 y) % 4294967296 := by show (x + y).toBitVec.toNat = _; rw [Int32.toBitVec_add, BitVec.toNat_add]; rfl
theorem u64_add (x y : Int64) : u64 (x + y) = (u64 x + u64 y) % 18446744073709551616 := by show (x + y).toBitVec.toNat = _; rw [Int64.toBitVec_add, BitVec.toNat_add]; rfl
theorem u32_mul (x y : Int32) : u32 (x * y) = (u32 x * u32 y) % 4294967296 := by show (x * y).toBitVec.toNat = _; rw [Int32.toBitVec_mul, BitVec.toNat_mul]; rfl
theorem u64_mul (x y : Int64) : u64 (x * y) = (u64 x * u64 y) % 18446744073709551616 := by show (x * y).toBitVec.toNat = _; rw [Int64.toBitVec_mul, BitVec.toNat_mul]; rfl
theorem and31 (n : Nat) : n &&& 31 = n % 32 := Nat.and_two_pow_sub_one_eq_mod n 5
theorem and63 (n : Nat) : n &&& 63 = n % 64 := Nat.and_two_pow_sub_one_eq_mod n 6
theorem u32_ushr (x y : Int32) : u32 (jushr x y) = u32 x / 2 ^ (u32 y % 32) := by
  show (x.toBitVec >>> ((y &&& 31).toBitVec % 32#32)).toNat = _
  rw [BitVec.ushiftRight_eq', BitVec.toNat_ushiftRight, Nat.shiftRight_eq_div_pow, BitVec.toNat_umod]
  have e : (y &&& 31).toBitVec.toNat = u32 y % 32 := (u32_and y 31).trans (and31 _)
  rw [e]
  show u32 x / 2 ^ (u32 y % 32 % 32) = _
  rw [Nat.mod_mod]
theorem u32_shl (x y : Int32) : u32 (jshl x y) = (u32 x * 2 ^ (u32 y % 32)) % 4294967296 := by
  show (x.toBitVec <<< ((y &&& 31).toBitVec.smod 32#32)).toNat = _
  have e := sm32 y (u32 y % 32) rfl
  rw [BitVec.shiftLeft_eq', BitVec.toNat_shiftLeft, Nat.shiftLeft_eq]
  have e' : ((y &&& 31).toBitVec.smod 32#32).toNat = u32 y % 32 := e
  rw [e']; rfl
theorem u64_ushr (x : Int64) (y : Int32) : u64 (jushrL x y) = u64 x / 2 ^ (u32 y % 64) := by
  obtain ⟨e, h⟩ := sm64 y (u32 y % 64) rfl
  show (x.toBitVec >>> ((y &&& 0x3f).toInt64.toBitVec % 64#64)).toNat = _
  rw [e, BitVec.ushiftRight_eq', BitVec.toNat_ushiftRight, Nat.shiftRight_eq_div_pow, BitVec.toNat_umod, BitVec.toNat_ofNat]
  show u64 x / 2 ^ (u32 y % 64 % 18446744073709551616 % 64) = _
  congr 2
  omega
theorem u64_shl (x : Int64) (y : Int32) : u64 (jshlL x y) = (u64 x * 2 ^ (u32 y % 64)) % 18446744073709551616 := by
  obtain ⟨e, h⟩ := sm64 y (u32 y % 64) rfl
  show (x.toBitVec <<< ((y &&& 0x3f).toInt64.toBitVec.smod 64#64)).toNat = _
  rw [e, BitVec.shiftLeft_eq', BitVec.toNat_shiftLeft, Nat.shiftLeft_eq]
  have e' := smod64 (u32 y % 64) h
  have e'' : ((BitVec.ofNat 64 (u32 y % 64)).smod 64#64).toNat = u32 y % 64 := e'
  rw [e'']; rfl
theorem u32_l2i (x : Int64) : u32 x.toInt32 = u64 x % 4294967296 := by
  show x.toInt32.toBitVec.toNat = _
  rw [Int64.toBitVec_toInt32, BitVec.signExtend_eq_setWidth_of_le _ (by decide), BitVec.toNat_setWidth]; rfl
theorem u64_i2l (x : Int32) : u64 x.toInt64 = if 2 * u32 x < 4294967296 then u32 x else u32 x + 18446744069414584320 := by
  have h := c_i2l x
  rw [u64_toInt, u32_toInt] at h
  have := u32_lt x; have := u64_lt x.toInt64
  split <;> split at h <;> omega
theorem i32_of {x : Int32} {n : Nat} (h : u32 x = n) : x = Int32.ofNat n := by
  apply u32_inj; rw [h]
  show n = (BitVec.ofNat 32 n).toNat
  rw [BitVec.toNat_ofNat, Nat.mod_eq_of_lt]; have := u32_lt x; omega
theorem i64_of {x : Int64} {n : Nat} (h : u64 x = n) : x = Int64.ofNat n := by
  apply u64_inj; rw [h]
  show n = (BitVec.ofNat 64 n).toNat
  rw [BitVec.toNat_ofNat, Nat.mod_eq_of_lt]; have := u64_lt x; omega
theorem u32_of (n : Nat) (h : n < 4294967296) : u32 (Int32.ofNat n) = n := by
  show (BitVec.ofNat 32 n).toNat = n
  rw [BitVec.toNat_ofNat, Nat.mod_eq_of_lt]; omega
theorem u64_of (n : Nat) (h : n < 18446744073709551616) : u64 (Int64.ofNat n) = n := by
  show (BitVec.ofNat 64 n).toNat = n
  rw [BitVec.toNat_ofNat, Nat.mod_eq_of_lt]; omega
theorem toInt_of {n : Nat} (h : n < 2147483648) : (Int32.ofNat n).toInt = n := Int32.toInt_ofNat_of_lt (by omega)
theorem tnc_of {n : Nat} (h : n < 2147483648) : (Int32.ofNat n).toNatClampNeg = n := by show (Int32.ofNat n).toInt.toNat = n; rw [toInt_of h]; rfl
theorem nneg_of {n : Nat} (h : n < 2147483648) : ¬ Int32.ofNat n < 0 := by rw [Int32.lt_iff_toInt_lt, toInt_of h]; show ¬ (n : Int) < 0; omega
theorem jcmp_lt (x y : Int64) : jcmp x y < 0 ↔ x < y := lw_lt x y
theorem jcmp_gt (x y : Int64) : 0 < jcmp x y ↔ y < x := lw_gt x y
theorem jcmp_eq (x y : Int64) : jcmp x y = 0 ↔ x = y := lw_eq x y
/-- a mask of the bits from k on -/
theorem nat_hi (n k w : Nat) (h : n < 2 ^ w) (hk : k ≤ w) : n &&& (2 ^ w - 2 ^ k) = n / 2 ^ k * 2 ^ k := by
  apply Nat.eq_of_testBit_eq
  intro i
  have e : 2 ^ w - 2 ^ k = (2 ^ (w - k) - 1) <<< k := by
    rw [Nat.shiftLeft_eq, Nat.sub_mul, Nat.one_mul, ← Nat.pow_add, Nat.sub_add_cancel hk]
  rw [e, ← Nat.shiftRight_eq_div_pow, ← Nat.shiftLeft_eq, Nat.testBit_and, Nat.testBit_shiftLeft, Nat.testBit_shiftLeft, Nat.testBit_two_pow_sub_one, Nat.testBit_shiftRight]
  by_cases q : k ≤ i
  · simp only [q, decide_true, Bool.true_and]
    have e2 : k + (i - k) = i := by omega
    rw [e2]
    by_cases r : i < w
    · have : decide (i - k < w - k) = true := by simp; omega
      rw [this, Bool.and_true]
    · have : n.testBit i = false := Nat.testBit_lt_two_pow (Nat.lt_of_lt_of_le h (Nat.pow_le_pow_right (by decide) (by omega)))
      rw [this]; simp
  · simp [q]

end Jvm.Pilot.@@N@@
/- laws to paste: Road.eqW, Road.codOf (cut by pick.py; bodies as the Statement names them) -/
namespace Jvm.Pilot.@@N@@
namespace StrChars
open Jvm Sem ClassFile Op Lib Jvm.Stand Jvm.Free.XT Jvm.Free.ALB Jvm.Free.JM Jvm.Free
open Jvm.Lib.Cold (StaticIs)
def lo8 (x : Int32) : Int32 := x.toInt8.toInt32
theorem fits_lo8 (y : Int32) : fits .byte (.int (lo8 y)) = true := by
  have h1 := y.toInt8.le_toInt
  have h2 := y.toInt8.toInt_lt
  simp only [lo8, fits, Bool.and_eq_true, decide_eq_true_eq, Int32.le_iff_toInt_le, Int8.toInt_toInt32, show (-128 : Int32).toInt = -128 from by decide, show (127 : Int32).toInt = 127 from by decide]
  omega
theorem lo8_mask {x : Int32} (h0 : ¬ x < 0) (h1 : ¬ 255 < x) : lo8 x &&& 255 = x := by
  have t : ∀ k : Fin 256, lo8 (Int32.ofNat k.val) &&& 255 = Int32.ofNat k.val := by decide +kernel
  rw [Int32.lt_iff_toInt_lt] at h0 h1
  have e0 : (0 : Int32).toInt = 0 := rfl
  have e1 : (255 : Int32).toInt = 255 := rfl
  obtain ⟨k, hk⟩ : ∃ k : Nat, x.toInt = k := ⟨x.toInt.toNat, by omega⟩
  have hx : x = Int32.ofNat k := Int32.toInt_inj.mp (by rw [hk, Int32.toInt_ofNat_small (by omega)])
  rw [hx]
  exact t ⟨k, by omega⟩
end StrChars
namespace StrChars.Road
open Jvm Sem ClassFile Op Lib Jvm.Stand Jvm.Free Jvm.Free.XT
open Jvm.Lib.Cold (StaticIs)
abbrev ST : String := "java/lang/String"
end StrChars.Road
namespace StrChars
open Jvm Sem ClassFile Op Lib Jvm.Stand Jvm.Free.XT Jvm.Free.ALB Jvm.Free.JM Jvm.Free
open Jvm.Lib.Cold (StaticIs)
def hi8 (x : Int32) : Int32 := lo8 (x >>> ((8 : Int32) &&& 31))
def pairCh (u v : Int32) : Int32 := (((u &&& 255) <<< ((0 : Int32) &&& 31)) ||| ((v &&& 255) <<< ((8 : Int32) &&& 31))).toUInt32.toUInt16.toUInt32.toInt32
theorem lo8_and (x : Int32) : (lo8 x &&& 255).toBitVec.toNat = x.toBitVec.toNat % 256 := by
  have h : (lo8 x).toBitVec = (x.toBitVec.signExtend 8).signExtend 32 := by rw [lo8, Int8.toBitVec_toInt32, Int32.toBitVec_toInt8]
  rw [Int32.toBitVec_and, BitVec.toNat_and, h]
  have e : ((x.toBitVec.signExtend 8).signExtend 32).toNat % 256 = x.toBitVec.toNat % 256 := by
    rw [BitVec.toNat_signExtend]
    have hlt := x.toBitVec.isLt
    simp only [BitVec.toNat_setWidth, BitVec.toNat_signExtend]
    split <;> split <;> omega
  rw [← e]
  exact Nat.and_two_pow_sub_one_eq_mod _ 8
theorem pair_says {c : Int32} (h0 : ¬ c < 0) (h1 : ¬ 65535 < c) : pairCh (lo8 c) (hi8 c) = c := by
  rw [Int32.lt_iff_toInt_lt] at h0 h1
  have e0 : (0 : Int32).toInt = 0 := rfl
  have e1 : (65535 : Int32).toInt = 65535 := rfl
  have hc : c.toInt = c.toBitVec.toNat := by
    have := c.toBitVec.isLt
    have e : c.toInt = c.toBitVec.toInt := rfl
    rw [e] at h0 h1
    rw [e]
    rw [BitVec.toInt_eq_toNat_cond] at h0 h1 ⊢
    split at h0 <;> split <;> omega
  have hn : c.toBitVec.toNat < 65536 := by omega
  have a1 := lo8_and c
  have a2 : (hi8 c &&& 255).toBitVec.toNat = c.toBitVec.toNat / 256 := by
    rw [hi8, lo8_and]
    have e : ((8 : Int32) &&& 31) = 8 := by decide
    rw [e, Int32.toBitVec_shiftRight]
    have e2 : ((8 : Int32).toBitVec.smod 32) = 8#32 := by decide
    rw [e2, BitVec.sshiftRight_eq', BitVec.toNat_sshiftRight_of_msb_false (by rw [BitVec.msb_eq_false_iff_two_mul_lt]; omega)]
    show c.toBitVec.toNat >>> 8 % 256 = _
    rw [Nat.shiftRight_eq_div_pow]
    omega
  unfold pairCh
  apply Int32.toBitVec_inj.mp
  apply BitVec.eq_of_toNat_eq
  have f0 : ((0 : Int32) &&& 31) = 0 := by decide
  have f8 : ((8 : Int32) &&& 31) = 8 := by decide
  rw [f0, f8]
  have g : (((lo8 c &&& 255) <<< (0 : Int32)) ||| ((hi8 c &&& 255) <<< (8 : Int32))).toBitVec.toNat = c.toBitVec.toNat := by
    rw [Int32.toBitVec_or, Int32.toBitVec_shiftLeft, Int32.toBitVec_shiftLeft]
    have s0 : ((0 : Int32).toBitVec.smod 32) = 0#32 := by decide
    have s8 : ((8 : Int32).toBitVec.smod 32) = 8#32 := by decide
    rw [s0, s8, BitVec.toNat_or]
    simp only [BitVec.shiftLeft_eq', BitVec.toNat_shiftLeft, a1, a2]
    show (c.toBitVec.toNat % 256) <<< 0 % 2 ^ 32 ||| (c.toBitVec.toNat / 256) <<< 8 % 2 ^ 32 = _
    rw [Nat.shiftLeft_zero, Nat.mod_eq_of_lt (show c.toBitVec.toNat % 256 < 2 ^ 32 by omega), Nat.mod_eq_of_lt (show (c.toBitVec.toNat / 256) <<< 8 < 2 ^ 32 by rw [Nat.shiftLeft_eq]; omega), Nat.or_comm, ← Nat.shiftLeft_add_eq_or_of_lt (by omega), Nat.shiftLeft_eq]
    omega
  show BitVec.toNat (((((lo8 c &&& 255) <<< (0 : Int32)) ||| ((hi8 c &&& 255) <<< (8 : Int32))).toBitVec.setWidth 16).setWidth 32) = _
  rw [BitVec.toNat_setWidth, BitVec.toNat_setWidth, g]
  omega
end StrChars
namespace StrChars
open Jvm Sem ClassFile Op Lib Jvm.Stand Jvm.Free.XT Jvm.Free.ALB Jvm.Free.JM Jvm.Free
open Jvm.Lib.Cold (StaticIs)
def Cod (cd : Int32) (n : Nat) (f : Nat → Int32) (V : Cell) : Prop := (cd = 0 ∧ V.slots.size = n ∧ ∀ j, j < n → V.slots[j]? = some (.int (lo8 (f j))) ∧ ¬ 255 < f j) ∨ (cd = 1 ∧ V.slots.size = 2 * n ∧ (∀ j, j < n → V.slots[2 * j]? = some (.int (lo8 (f j))) ∧ V.slots[2 * j + 1]? = some (.int (hi8 (f j)))) ∧ ∃ j, j < n ∧ 255 < f j)
def Txt (x t : Addr) (V : Cell) (cd : Int32) (n : Nat) (f : Nat → Int32) (U : State) : Prop := Exact "java/lang/String" x U ∧ Has x "java/lang/String" "value" "[B" (.ref t) U ∧ Has x "java/lang/String" "coder" "B" (.int cd) U ∧ XT.Arr .byte t V U ∧ Cod cd n f V ∧ ∀ j, j < n → ¬ f j < 0 ∧ ¬ 65535 < f j
theorem Txt.mv {x t : Addr} {V : Cell} {cd : Int32} {n : Nat} {f : Nat → Int32} {U U' : State} (h : Txt x t V cd n f U) (hal : U.vm.Alike U'.vm) (hh : U'.heap = U.heap) : Txt x t V cd n f U' := ⟨h.1.mv hal hh, h.2.1.mv hal hh, h.2.2.1.mv hal hh, h.2.2.2.1.mv hal hh, h.2.2.2.2⟩
end StrChars
namespace StrChars.Road
open Jvm Sem ClassFile Op Lib Jvm.Stand Jvm.Free Jvm.Free.XT
open Jvm.Lib.Cold (StaticIs)
theorem consq {a : Array Value} {s : State} {c : Jvm.Cond} {L : List Jvm.Cond} (h0 : c.before a s = true) (h : ∀ w ∈ L, w.before a s = true) : ∀ w ∈ c :: L, w.before a s = true := fun w hw => (List.mem_cons.mp hw).elim (fun e => e ▸ h0) (h w)
def wideBytes : List Int32 → List Value
  | [] => []
  | c :: cs => .int (lo8 c) :: .int (hi8 c) :: wideBytes cs
theorem wide_lo (d : Value) : ∀ (cs : List Int32) (j : Nat), j < cs.length → (wideBytes cs).getD (2 * j) d = .int (lo8 (cs.getD j 0))
  | [], j, h => absurd h (Nat.not_lt_zero j)
  | c :: cs, 0, _ => rfl
  | c :: cs, j + 1, h => by
    have q := wide_lo d cs j (by simpa using h)
    rw [show 2 * (j + 1) = 2 * j + 1 + 1 from by omega]
    simpa [wideBytes] using q
theorem wide_hi (d : Value) : ∀ (cs : List Int32) (j : Nat), j < cs.length → (wideBytes cs).getD (2 * j + 1) d = .int (hi8 (cs.getD j 0))
  | [], j, h => absurd h (Nat.not_lt_zero j)
  | c :: cs, 0, _ => rfl
  | c :: cs, j + 1, h => by
    have q := wide_hi d cs j (by simpa using h)
    rw [show 2 * (j + 1) + 1 = 2 * j + 1 + 1 + 1 from by omega]
    simpa [wideBytes] using q
theorem low_at (d : Value) (cs : List Int32) (j : Nat) (h : j < cs.length) : (cs.map fun c => Value.int (lo8 c)).getD j d = .int (lo8 (cs.getD j 0)) := by
  simp [List.getD_eq_getElem?_getD, h]
def CodA (cs : List Int32) (cd N2 : Int32) (vs : List Value) : Prop := (cd = 0 ∧ N2 = Int32.ofNat cs.length ∧ vs = (cs.map fun c => Value.int (lo8 c)) ∧ ∀ c ∈ cs, ¬ 255 < c) ∨ (cd = 1 ∧ N2 = Int32.ofNat (2 * cs.length) ∧ vs = wideBytes cs ∧ ∃ c ∈ cs, 255 < c)
theorem CodA.cod {cs : List Int32} {cd N2 : Int32} {vs : List Value} {V : Cell} (h : CodA cs cd N2 vs) (hn : 2 * cs.length < 2 ^ 31) (hs : V.slots.size = N2.toNatClampNeg) (hv : RoadKit.Has V vs (.int 0)) : Cod cd cs.length (fun j => cs.getD j 0) V := by
  rcases h with ⟨rfl, rfl, rfl, h⟩ | ⟨rfl, rfl, rfl, c, hc, hw⟩
  · rw [n32 (by omega)] at hs
    exact Or.inl ⟨rfl, hs, fun j hj => ⟨by rw [hv j (by omega), low_at _ _ _ hj], by
      have e : cs.getD j 0 = cs[j] := by simp [List.getD_eq_getElem?_getD, hj]
      show ¬ 255 < cs.getD j 0
      rw [e]; exact h _ (List.getElem_mem _)⟩⟩
  · rw [n32 (by omega)] at hs
    obtain ⟨j, hj, rfl⟩ := List.getElem_of_mem hc
    exact Or.inr ⟨rfl, hs, fun j hj => ⟨by rw [hv _ (by omega), wide_lo _ _ _ hj], by rw [hv _ (by omega), wide_hi _ _ _ hj]⟩, j, hj, by
      have e : cs.getD j 0 = cs[j] := by simp [List.getD_eq_getElem?_getD, hj]
      show 255 < cs.getD j 0
      rw [e]; exact hw⟩
theorem strObj {Z U : State} {a0 : Array Value} {kI : Nat} (wi : (Jvm.Cond.instantiable ST kI).before a0 Z = true) (al : Z.vm.Alike U.vm) {x : Addr} {v0 c0 : Value} (E : RoadKit.Exa Z U.heap x ST) (V : RoadKit.Fld Z U.heap x ST "value" "[B" v0) (C : RoadKit.Fld Z U.heap x ST "coder" "B" c0) :
    ∃ (D : Cell) (fV fC : Field), Blank ST x D U ∧ Found ST "value" "[B" fV U ∧ Found ST "coder" "B" fC U ∧ D.slots[fV.slot]? = some v0 ∧ D.slots[fC.slot]? = some c0 ∧ RoadKit.slotOf Z ST "value" "[B" = fV.slot ∧ RoadKit.slotOf Z ST "coder" "B" = fC.slot := by
  obtain ⟨D, cfV, kV, iV, fV, hD, gV, stV, knV, obV, asV, slV⟩ := V
  obtain ⟨D', cfC, kC, iC, fC, hD', gC, stC, -, -, asC, slC⟩ := C
  cases hD.symm.trans hD'
  obtain ⟨D2, kD, e1, e2, e3, e4, e5⟩ := E
  cases hD.symm.trans e1
  obtain ⟨c2, k2, i1, i2, i3, -⟩ := Cond.instantiable_spec wi
  cases e2.symm.trans i1
  cases e3.symm.trans i2
  obtain ⟨kU, u1, u2⟩ := al.2.2 _ _ e3
  exact ⟨D, fV, fC, ⟨hD, ⟨knV, fun q hq => by rw [hq] at obV; cases obV⟩, by rw [al.findClass]; exact e2, kU, u1, by rw [u2]; exact i3, by rw [u2]; exact e5 i3⟩, ⟨SBG.found_only al ⟨cfV, kV, iV, gV⟩, stV⟩, ⟨SBG.found_only al ⟨cfC, kC, iC, gC⟩, stC⟩, slV, slC, by simp [RoadKit.slotOf, gV], by simp [RoadKit.slotOf, gC]⟩
theorem sta_is {Z U : State} (al : Z.vm.Alike U.vm) {C n d : String} {v : Value} (S : RoadKit.Sta Z U.heap C n d v) : StaticIs U C n d v := by
  obtain ⟨cfS, iS, kS, fS, st, cS, t1, t2, t3, t4, t5, t6, t7⟩ := S
  exact StaticIs.there (s := { Z with heap := U.heap }) ⟨cfS, iS, kS, fS, st, cS, t1, t2, t3, t4, t5, (fun q => by rw [q] at t6; cases t6), t7⟩ al rfl
end StrChars.Road
namespace StrChars
open Jvm Sem ClassFile Op Lib Jvm.Stand Jvm.Free.XT Jvm.Free.ALB Jvm.Free.JM Jvm.Free
open Jvm.Lib.Cold (StaticIs)
def yv (A : Cell) (i : Nat) : Int32 := match A.slots[i]? with | some (.int x) => x | _ => 0
theorem yv_get {a : Addr} {A : Cell} {U : State} (h : XT.Arr .byte a A U) (ht : Typed .byte A) {i : Nat} (hi : i < A.slots.size) : A.slots[i]? = some (.int (yv A i)) := by
  have e := Array.getElem?_eq_getElem hi
  have f := ht i _ e
  unfold yv; rw [e]
  generalize A.slots[i] = v at f
  cases v <;> simp [fits] at f ⊢
def EqC (A B : Cell) : Prop := A.slots.size = B.slots.size ∧ ∀ i, i < A.slots.size → yv A i = yv B i
def Says01 (q : Prop) (r : Option Value) (s u : State) : Prop := ∃ v : Int32, r = some (.int v) ∧ u.heap = s.heap ∧ ((v = 1 ∧ q) ∨ (v = 0 ∧ ¬ q))
theorem Says01.mv {q : Prop} : ∀ r (U U' V V' : State), U'.heap = U.heap → V.vm.Alike V'.vm → V'.heap = V.heap → Says01 q r U V → Says01 q r U' V' :=
  fun r U U' V V' h1 _ h2 ⟨v, a, b, c⟩ => ⟨v, a, by rw [h1, h2]; exact b, c⟩
namespace LEq
def yN : MethodName := ⟨"java/lang/StringLatin1", "equals", "([B[B)Z"⟩
abbrev yB : ByteArray := jdk_43_method_13_code
theorem d0 : decode yB 0 = .ok (.aload_n 0, 1) := by decide +kernel
theorem d1 : decode yB 1 = .ok (.arraylength, 1) := by decide +kernel
theorem d2 : decode yB 2 = .ok (.aload_n 1, 1) := by decide +kernel
theorem d3 : decode yB 3 = .ok (.arraylength, 1) := by decide +kernel
theorem d4 : decode yB 4 = .ok (.if_icmp (.ne) 30, 3) := by decide +kernel
theorem d7 : decode yB 7 = .ok (.iconst 0, 1) := by decide +kernel
theorem d8 : decode yB 8 = .ok (.istore_n 2, 1) := by decide +kernel
theorem d9 : decode yB 9 = .ok (.iload_n 2, 1) := by decide +kernel
theorem d10 : decode yB 10 = .ok (.aload_n 0, 1) := by decide +kernel
theorem d11 : decode yB 11 = .ok (.arraylength, 1) := by decide +kernel
theorem d12 : decode yB 12 = .ok (.if_icmp (.ge) 20, 3) := by decide +kernel
theorem d15 : decode yB 15 = .ok (.aload_n 0, 1) := by decide +kernel
theorem d16 : decode yB 16 = .ok (.iload_n 2, 1) := by decide +kernel
theorem d17 : decode yB 17 = .ok (.baload, 1) := by decide +kernel
theorem d18 : decode yB 18 = .ok (.aload_n 1, 1) := by decide +kernel
theorem d19 : decode yB 19 = .ok (.iload_n 2, 1) := by decide +kernel
theorem d20 : decode yB 20 = .ok (.baload, 1) := by decide +kernel
theorem d21 : decode yB 21 = .ok (.if_icmp (.eq) 5, 3) := by decide +kernel
theorem d24 : decode yB 24 = .ok (.iconst 0, 1) := by decide +kernel
theorem d25 : decode yB 25 = .ok (.ireturn, 1) := by decide +kernel
theorem d26 : decode yB 26 = .ok (.iinc 2 1, 3) := by decide +kernel
theorem d29 : decode yB 29 = .ok (.goto (-20), 3) := by decide +kernel
theorem d32 : decode yB 32 = .ok (.iconst 1, 1) := by decide +kernel
theorem d33 : decode yB 33 = .ok (.ireturn, 1) := by decide +kernel
theorem d34 : decode yB 34 = .ok (.iconst 0, 1) := by decide +kernel
theorem d35 : decode yB 35 = .ok (.ireturn, 1) := by decide +kernel
def site : List Cond := []
def tab : Cond := tabOf yN yB 3 (some .boolean) site
def P (a : Addr) (A : Cell) (b : Addr) (B : Cell) (args : Array Value) (s : State) : Prop := args = #[.ref a, .ref b] ∧ XT.Arr .byte a A s ∧ Typed .byte A ∧ XT.Arr .byte b B s ∧ Typed .byte B
theorem law (l : Launch) (a : Addr) (A : Cell) (b : Addr) (B : Cell) : Law l yN 2 2 0 0 yB 3 (some .boolean) site (P a A b B) (Says01 (EqC A B)) [] 0 0 := by
  refine Law.of_walk (plainFor_of_name (by decide +kernel)) (by decide +kernel) (by decide +kernel) (by decide) (fun _ _ h => by rw [h.1]; rfl) (fun _ U U' hal hh h => ⟨h.1, h.2.1.mv hal hh, h.2.2.1, h.2.2.2.1.mv hal hh, h.2.2.2.2⟩) (fun r U U' V V' h1 hal h2 h => Says01.mv r U U' V V' h1 hal h2 h) ?_
  intro p e s m args below meth c s₁ X0 hexec hbytes hml hret hlk hnm hown hh0 W hP
  obtain ⟨rfl, hA, tA, hB, tB⟩ := hP
  have a31 := hA.2.2.2
  have b31 := hB.2.2.2
  have hA0 := hA.mv X0.warmed.alike hh0
  have hB0 := hB.mv X0.warmed.alike hh0
  have c1 : Steps p.tables e below (s₁.setTop (entryFrame m #[.ref a, .ref b] 3)) (s₁.setTop (mkF m 0 #[.val (.ref a), .val (.ref b), .unset] [])) := entry rfl
  have c2 : Steps p.tables e below (s₁.setTop (entryFrame m #[.ref a, .ref b] 3)) (s₁.setTop (mkF m 4 #[.val (.ref a), .val (.ref b), .unset] [.int (Int32.ofNat B.slots.size), .int (Int32.ofNat A.slots.size)])) := c1.trans (by
    refine XS.aloadN X0.here hexec rfl (hb hbytes d0) rfl rfl ?_
    refine X0.alen hexec hA0 rfl rfl (hb hbytes d1) ?_
    refine XS.aloadN X0.here hexec rfl (hb hbytes d2) rfl rfl ?_
    refine X0.alen hexec hB0 rfl rfl (hb hbytes d3) ?_
    exact Steps.refl _)
  by_cases hs : A.slots.size = B.slots.size
  · have c3 : Steps p.tables e below (s₁.setTop (entryFrame m #[.ref a, .ref b] 3)) (s₁.setTop (mkF m 9 #[.val (.ref a), .val (.ref b), .val (.int 0)] [])) := c2.trans (by
      refine XS.icmpNo X0.here hexec rfl (hb hbytes d4) rfl (ii_ne_f (by rw [hs])) ?_
      refine iconstV X0.here hexec rfl 0 (hb hbytes d7) (by decide) ?_
      refine XS.istoreN X0.here hexec rfl (hb hbytes d8) rfl rfl ?_
      exact Steps.refl _)
    have loop : ∀ (r i : Nat), i + r = A.slots.size → (∀ j, j < i → yv A j = yv B j) → Steps p.tables e below (s₁.setTop (entryFrame m #[.ref a, .ref b] 3)) (s₁.setTop (mkF m 9 #[.val (.ref a), .val (.ref b), .val (.int (Int32.ofNat i))] [])) → ∃ (pc : Nat) (Ls : Array Slot) (v : Int32), (pc = 25 ∨ pc = 33) ∧ ((v = 1 ∧ EqC A B) ∨ (v = 0 ∧ ¬ EqC A B)) ∧ Steps p.tables e below (s₁.setTop (entryFrame m #[.ref a, .ref b] 3)) (s₁.setTop (mkF m pc Ls [.int v])) := by
      intro r
      induction r with
      | zero =>
        intro i hi he cl
        exact ⟨33, _, 1, Or.inr rfl, Or.inl ⟨rfl, hs, fun j hj => he j (by omega)⟩, cl.trans (by
          refine XS.iloadN X0.here hexec rfl (hb hbytes d9) rfl ?_
          refine XS.aloadN X0.here hexec rfl (hb hbytes d10) rfl rfl ?_
          refine X0.alen hexec hA0 rfl rfl (hb hbytes d11) ?_
          refine XS.icmpYes X0.here hexec rfl (pc0 := 12) rfl (hb hbytes d12) rfl (ii_ge_t (nlt32 (by omega) (by omega))) (by decide) rfl ?_
          refine iconstV X0.here hexec rfl 1 (hb hbytes d32) (by decide) ?_
          exact Steps.refl _)⟩
      | succ r ih =>
        intro i hi he cl
        have c4 : Steps p.tables e below (s₁.setTop (entryFrame m #[.ref a, .ref b] 3)) (s₁.setTop (mkF m 21 #[.val (.ref a), .val (.ref b), .val (.int (Int32.ofNat i))] [.int (yv B i), .int (yv A i)])) := cl.trans (by
          refine XS.iloadN X0.here hexec rfl (hb hbytes d9) rfl ?_
          refine XS.aloadN X0.here hexec rfl (hb hbytes d10) rfl rfl ?_
          refine X0.alen hexec hA0 rfl rfl (hb hbytes d11) ?_
          refine XS.icmpNo X0.here hexec rfl (hb hbytes d12) rfl (ii_ge_f (lt32 (by omega) (by omega))) ?_
          refine XS.aloadN X0.here hexec rfl (hb hbytes d15) rfl rfl ?_
          refine XS.iloadN X0.here hexec rfl (hb hbytes d16) rfl ?_
          refine X0.aget hexec hA0 rfl (yv_get hA tA (i := i) (by omega)) rfl rfl (hb hbytes d17) ?_
          refine XS.aloadN X0.here hexec rfl (hb hbytes d18) rfl rfl ?_
          refine XS.iloadN X0.here hexec rfl (hb hbytes d19) rfl ?_
          refine X0.aget hexec hB0 rfl (yv_get hB tB (i := i) (by omega)) rfl rfl (hb hbytes d20) ?_
          exact Steps.refl _)
        by_cases hv : yv A i = yv B i
        · have c5 : Steps p.tables e below (s₁.setTop (entryFrame m #[.ref a, .ref b] 3)) (s₁.setTop (mkF m 9 #[.val (.ref a), .val (.ref b), .val (.int (Int32.ofNat i + 1))] [])) := c4.trans (by
            refine XS.icmpYes X0.here hexec rfl (pc0 := 21) rfl (hb hbytes d21) rfl (ii_eq_t hv) (by decide) rfl ?_
            refine iincV X0.here hexec rfl 1 (hb hbytes d26) (by decide) rfl rfl ?_
            refine XS.goto X0.here hexec rfl (pc0 := 29) rfl (hb hbytes d29) (by decide) rfl ?_
            exact Steps.refl _)
          rw [succ32] at c5
          exact ih (i + 1) (by omega) (fun j hj => by
            by_cases e : j = i
            · rw [e]; exact hv
            · exact he j (by omega)) c5
        · exact ⟨25, _, 0, Or.inl rfl, Or.inr ⟨rfl, fun q => hv (q.2 i (by omega))⟩, c4.trans (by
            refine XS.icmpNo X0.here hexec rfl (hb hbytes d21) rfl (ii_eq_f hv) ?_
            refine iconstV X0.here hexec rfl 0 (hb hbytes d24) (by decide) ?_
            exact Steps.refl _)⟩
    obtain ⟨pc, Ls, v, hpc, hv, cz⟩ := loop A.slots.size 0 (by omega) (fun j hj => absurd hj (Nat.not_lt_zero j)) c3
    have nv : narrow .boolean (.int v) = .int v := by rcases hv with ⟨rfl, -⟩ | ⟨rfl, -⟩ <;> rfl
    rcases hpc with rfl | rfl
    · exact ⟨s₁, some (.int v), _, _, _, X0, rfl, rfl, rfl, (fun h => by cases h), ⟨v, rfl, hh0, hv⟩, fun fs hl => cz.trans (X0.ireturnOut hexec hret nv (Or.inr (Or.inl rfl)) (hb hbytes d25) hl)⟩
    · exact ⟨s₁, some (.int v), _, _, _, X0, rfl, rfl, rfl, (fun h => by cases h), ⟨v, rfl, hh0, hv⟩, fun fs hl => cz.trans (X0.ireturnOut hexec hret nv (Or.inr (Or.inl rfl)) (hb hbytes d33) hl)⟩
  · have c3 : Steps p.tables e below (s₁.setTop (entryFrame m #[.ref a, .ref b] 3)) (s₁.setTop (mkF m 35 #[.val (.ref a), .val (.ref b), .unset] [.int 0])) := c2.trans (by
      refine XS.icmpYes X0.here hexec rfl (pc0 := 4) rfl (hb hbytes d4) rfl (ii_ne_t (ne32 a31 b31 hs)) (by decide) rfl ?_
      refine iconstV X0.here hexec rfl 0 (hb hbytes d34) (by decide) ?_
      exact Steps.refl _)
    exact ⟨s₁, some (.int 0), _, _, _, X0, rfl, rfl, rfl, (fun h => by cases h), ⟨0, rfl, hh0, Or.inr ⟨rfl, fun q => hs q.1⟩⟩, fun fs hl => c3.trans (X0.ireturnOut hexec hret rfl (Or.inr (Or.inl rfl)) (hb hbytes d35) hl)⟩
end LEq
theorem Cod.ty {cd : Int32} {n : Nat} {f : Nat → Int32} {V : Cell} (h : Cod cd n f V) : Typed .byte V := fun i v hv => by
  have hi : i < V.slots.size := (Array.getElem?_eq_some_iff.mp hv).1
  rcases h with ⟨-, k1, k2⟩ | ⟨-, k1, k2, -⟩
  · rw [(k2 i (by omega)).1] at hv; cases hv; exact fits_lo8 _
  · rcases Nat.mod_two_eq_zero_or_one i with e | e
    · obtain ⟨j, rfl⟩ : ∃ j, i = 2 * j := ⟨i / 2, by omega⟩
      rw [(k2 j (by omega)).1] at hv; cases hv; exact fits_lo8 _
    · obtain ⟨j, rfl⟩ : ∃ j, i = 2 * j + 1 := ⟨i / 2, by omega⟩
      rw [(k2 j (by omega)).2] at hv; cases hv; exact fits_lo8 _
def SameT (n : Nat) (f : Nat → Int32) (k : Nat) (g : Nat → Int32) : Prop := n = k ∧ ∀ j, j < n → f j = g j
theorem lo8_inj {x y : Int32} (h0 : ¬ x < 0) (h1 : ¬ 255 < x) (k0 : ¬ y < 0) (k1 : ¬ 255 < y) (h : lo8 x = lo8 y) : x = y := by
  rw [← lo8_mask h0 h1, ← lo8_mask k0 k1, h]
theorem Cod.eqv {cd : Int32} {n k : Nat} {f g : Nat → Int32} {V V' : Cell} (h : Cod cd n f V) (h' : Cod cd k g V') (hf : ∀ j, j < n → ¬ f j < 0 ∧ ¬ 65535 < f j) (hg : ∀ j, j < k → ¬ g j < 0 ∧ ¬ 65535 < g j) : EqC V V' ↔ SameT n f k g := by
  have yvv : ∀ {W : Cell} {i : Nat} {x : Int32}, W.slots[i]? = some (.int x) → yv W i = x := fun q => by unfold yv; rw [q]
  rcases h with ⟨rfl, k1, k2⟩ | ⟨rfl, k1, k2, -⟩
  · rcases h' with ⟨-, m1, m2⟩ | ⟨e, -⟩
    · constructor
      · rintro ⟨e1, e2⟩
        refine ⟨by omega, fun j hj => ?_⟩
        have q := e2 j (by omega)
        rw [yvv (k2 j hj).1, yvv (m2 j (by omega)).1] at q
        exact lo8_inj (hf j hj).1 (k2 j hj).2 (hg j (by omega)).1 (m2 j (by omega)).2 q
      · rintro ⟨rfl, e2⟩
        refine ⟨by omega, fun j hj => ?_⟩
        rw [yvv (k2 j (by omega)).1, yvv (m2 j (by omega)).1, e2 j (by omega)]
    · exact absurd e (by decide)
  · rcases h' with ⟨e, -⟩ | ⟨-, m1, m2, -⟩
    · exact absurd e (by decide)
    · constructor
      · rintro ⟨e1, e2⟩
        refine ⟨by omega, fun j hj => ?_⟩
        have q1 := e2 (2 * j) (by omega)
        have q2 := e2 (2 * j + 1) (by omega)
        rw [yvv (k2 j hj).1, yvv (m2 j (by omega)).1] at q1
        rw [yvv (k2 j hj).2, yvv (m2 j (by omega)).2] at q2
        rw [← pair_says (hf j hj).1 (hf j hj).2, ← pair_says (hg j (by omega)).1 (hg j (by omega)).2, q1, q2]
      · rintro ⟨rfl, e2⟩
        refine ⟨by omega, fun i hi => ?_⟩
        rcases Nat.mod_two_eq_zero_or_one i with e | e
        · obtain ⟨j, rfl⟩ : ∃ j, i = 2 * j := ⟨i / 2, by omega⟩
          rw [yvv (k2 j (by omega)).1, yvv (m2 j (by omega)).1, e2 j (by omega)]
        · obtain ⟨j, rfl⟩ : ∃ j, i = 2 * j + 1 := ⟨i / 2, by omega⟩
          rw [yvv (k2 j (by omega)).2, yvv (m2 j (by omega)).2, e2 j (by omega)]
theorem Cod.dif {cd cd' : Int32} {n k : Nat} {f g : Nat → Int32} {V V' : Cell} (h : Cod cd n f V) (h' : Cod cd' k g V') (hne : ¬ cd = cd') : ¬ SameT n f k g := by
  rintro ⟨rfl, e⟩
  rcases h with ⟨rfl, -, k2⟩ | ⟨rfl, -, -, j, hj, hw⟩
  · rcases h' with ⟨rfl, -⟩ | ⟨-, -, -, j, hj, hw⟩
    · exact hne rfl
    · exact (k2 j hj).2 (by rw [e j hj]; exact hw)
  · rcases h' with ⟨-, -, m2⟩ | ⟨rfl, -⟩
    · exact (m2 j hj).2 (by rw [← e j hj]; exact hw)
    · exact hne rfl
theorem cinst {p : Program} {l : Launch} {e : Env} {R : Room} {s : State} {m : MethodId} {args : Array Value} {below : List Frame} {meth : Method} {c : Code} {T : State} {locs : List Loc} {cells slots : Nat} (X : Stand p l e R s m args below meth c T locs cells slots) (hexec : p.tables.exec = Jvm.exec) {own C : String} {index : Nat} (hown : s.vm.findClass own = some m.cls) (hlink : (Cond.classLink own index C).before args s = true) {a : Addr} (hE : Exact C a T)
    {g : JFrame} (hg : g.method = m) {rest : List Value} (hstack : g.stack = .ref a :: rest) (hdg : decode c.code g.pc = .ok (.instanceof index, 3)) :
    ∃ T', Stand p l e R s m args below meth c T' locs cells slots ∧ T'.heap = T.heap ∧ ∀ target, Steps p.tables e below (T'.setTop { g with pc := g.pc + 3, stack := .int 1 :: rest }) target → Steps p.tables e below (T.setTop g) target := by
  obtain ⟨cB, h1, D, h2, h3, h4⟩ := hE
  have h1' : s.vm.findClass C = some cB := by rw [← X.warmed.alike.findClass]; exact h1
  obtain ⟨vm', X', st⟩ := X.instanceofYes hexec hown hlink h2 h4 h1' (by rw [h3]; exact Jvm.Free.SB.assignable_self _ _) hg hstack hdg
  exact ⟨_, X', rfl, st⟩
theorem cself {p : Program} {l : Launch} {e : Env} {R : Room} {s : State} {m : MethodId} {args : Array Value} {below : List Frame} {meth : Method} {c : Code} {T : State} {locs : List Loc} {cells slots : Nat} (X : Stand p l e R s m args below meth c T locs cells slots) (hexec : p.tables.exec = Jvm.exec) {own C : String} {index : Nat} (hown : s.vm.findClass own = some m.cls) (hlink : (Cond.classLink own index C).before args s = true) {a : Addr} (hE : Exact C a T)
    {g : JFrame} (hg : g.method = m) {rest : List Value} (hstack : g.stack = .ref a :: rest) (hdg : decode c.code g.pc = .ok (.checkcast index, 3)) :
    ∃ T', Stand p l e R s m args below meth c T' locs cells slots ∧ T'.heap = T.heap ∧ ∀ target, Steps p.tables e below (T'.setTop { g with pc := g.pc + 3, stack := .ref a :: rest }) target → Steps p.tables e below (T.setTop g) target := by
  obtain ⟨cB, h1, D, h2, h3, h4⟩ := hE
  have h1' : s.vm.findClass C = some cB := by rw [← X.warmed.alike.findClass]; exact h1
  obtain ⟨vm', X', st⟩ := X.checkcastYes hexec hown hlink h2 h4 h1' (by rw [h3]; exact Jvm.Free.SB.assignable_self _ _) hg hstack hdg
  exact ⟨_, X', rfl, fun t h => st t (by rw [← hstack] at h; exact h)⟩
namespace SEq
def yN : MethodName := ⟨"java/lang/String", "equals", "(Ljava/lang/Object;)Z"⟩
abbrev yB : ByteArray := jdk_42_method_66_code
theorem d0 : decode yB 0 = .ok (.aload_n 0, 1) := by decide +kernel
theorem d1 : decode yB 1 = .ok (.aload_n 1, 1) := by decide +kernel
theorem d2 : decode yB 2 = .ok (.if_acmp (.ne) 5, 3) := by decide +kernel
theorem d5 : decode yB 5 = .ok (.iconst 1, 1) := by decide +kernel
theorem d6 : decode yB 6 = .ok (.ireturn, 1) := by decide +kernel
theorem d7 : decode yB 7 = .ok (.aload_n 1, 1) := by decide +kernel
theorem d8 : decode yB 8 = .ok (.instanceof 10, 3) := by decide +kernel
theorem d11 : decode yB 11 = .ok (.ifCond (.eq) 43, 3) := by decide +kernel
theorem d14 : decode yB 14 = .ok (.aload_n 1, 1) := by decide +kernel
theorem d15 : decode yB 15 = .ok (.checkcast 10, 3) := by decide +kernel
theorem d18 : decode yB 18 = .ok (.astore_n 2, 1) := by decide +kernel
theorem d19 : decode yB 19 = .ok (.getstatic 38, 3) := by decide +kernel
theorem d22 : decode yB 22 = .ok (.ifCond (.eq) 14, 3) := by decide +kernel
theorem d25 : decode yB 25 = .ok (.aload_n 0, 1) := by decide +kernel
theorem d26 : decode yB 26 = .ok (.getfield 15, 3) := by decide +kernel
theorem d29 : decode yB 29 = .ok (.aload_n 2, 1) := by decide +kernel
theorem d30 : decode yB 30 = .ok (.getfield 15, 3) := by decide +kernel
theorem d33 : decode yB 33 = .ok (.if_icmp (.ne) 21, 3) := by decide +kernel
theorem d36 : decode yB 36 = .ok (.aload_n 0, 1) := by decide +kernel
theorem d37 : decode yB 37 = .ok (.getfield 9, 3) := by decide +kernel
theorem d40 : decode yB 40 = .ok (.aload_n 2, 1) := by decide +kernel
theorem d41 : decode yB 41 = .ok (.getfield 9, 3) := by decide +kernel
theorem d44 : decode yB 44 = .ok (.invokestatic 541, 3) := by decide +kernel
theorem d47 : decode yB 47 = .ok (.ifCond (.eq) 7, 3) := by decide +kernel
theorem d50 : decode yB 50 = .ok (.iconst 1, 1) := by decide +kernel
theorem d51 : decode yB 51 = .ok (.goto 4, 3) := by decide +kernel
theorem d54 : decode yB 54 = .ok (.iconst 0, 1) := by decide +kernel
theorem d55 : decode yB 55 = .ok (.ireturn, 1) := by decide +kernel
def site : List Cond := [.classLink "java/lang/String" 10 "java/lang/String", .fieldLink "java/lang/String" 38 "java/lang/String" "COMPACT_STRINGS" "Z", .fieldLink "java/lang/String" 15 "java/lang/String" "coder" "B", .fieldLink "java/lang/String" 9 "java/lang/String" "value" "[B", LEq.tab] ++ staticW "java/lang/String" 541 LEq.yN
def tab : Cond := tabOf yN yB 3 (some .boolean) site
def P (x t : Addr) (V : Cell) (cd : Int32) (n : Nat) (f : Nat → Int32) (y t' : Addr) (V' : Cell) (cd' : Int32) (k : Nat) (g : Nat → Int32) (z : Int32) (args : Array Value) (s : State) : Prop := args = #[.ref x, .ref y] ∧ Txt x t V cd n f s ∧ Txt y t' V' cd' k g s ∧ StaticIs s "java/lang/String" "COMPACT_STRINGS" "Z" (.int z) ∧ ¬ z = 0
theorem law (l : Launch) (x t : Addr) (V : Cell) (cd : Int32) (n : Nat) (f : Nat → Int32) (y t' : Addr) (V' : Cell) (cd' : Int32) (k : Nat) (g : Nat → Int32) (z : Int32) : Law l yN 2 1 1 14 yB 3 (some .boolean) site (P x t V cd n f y t' V' cd' k g z) (Says01 (SameT n f k g)) [] 0 0 := by
  refine Law.of_walk (plainFor_of_name (by decide +kernel)) (by decide +kernel) (by decide +kernel) (by decide) (fun _ _ h => by rw [h.1]; rfl) (fun _ U U' hal hh h => ⟨h.1, h.2.1.mv hal hh, h.2.2.1.mv hal hh, h.2.2.2.1.there hal hh, h.2.2.2.2⟩) (fun r U U' V V' h1 hal h2 h => Says01.mv r U U' V V' h1 hal h2 h) ?_
  intro p e s m args below meth c s₁ X0 hexec hbytes hml hret hlk hnm hown hh0 W hP
  obtain ⟨rfl, hx, hy, s1, hz⟩ := hP
  have c1 : Steps p.tables e below (s₁.setTop (entryFrame m #[.ref x, .ref y] 3)) (s₁.setTop (mkF m 2 #[.val (.ref x), .val (.ref y), .unset] [.ref y, .ref x])) := Steps.trans (entry rfl) (by
    show Steps p.tables e below (s₁.setTop (mkF m 0 #[.val (.ref x), .val (.ref y), .unset] [])) _
    refine XS.aloadN X0.here hexec rfl (hb hbytes d0) rfl rfl ?_
    refine XS.aloadN X0.here hexec rfl (hb hbytes d1) rfl rfl ?_
    exact Steps.refl _)
  by_cases hxy : x = y
  · have c2 : Steps p.tables e below (s₁.setTop (entryFrame m #[.ref x, .ref y] 3)) (s₁.setTop (mkF m 6 #[.val (.ref x), .val (.ref y), .unset] [.int 1])) := c1.trans (by
      refine acmpNo X0.here hexec rfl (hb hbytes d2) rfl rfl rfl (by simp [acmp, hxy]) ?_
      refine iconstV X0.here hexec rfl 1 (hb hbytes d5) (by decide) ?_
      exact Steps.refl _)
    subst hxy
    have ec : cd = cd' := by
      obtain ⟨D, fd, a1, a2, a3⟩ := hx.2.2.1
      obtain ⟨D', fd', b1, b2, b3⟩ := hy.2.2.1
      cases a1.symm.trans b1
      obtain ⟨q1, q2, q3, q4⟩ := a2.1
      obtain ⟨r1, r2, r3, r4⟩ := b2.1
      cases q4.symm.trans r4
      cases a3.symm.trans b3; rfl
    have et : t = t' := by
      obtain ⟨D, fd, a1, a2, a3⟩ := hx.2.1
      obtain ⟨D', fd', b1, b2, b3⟩ := hy.2.1
      cases a1.symm.trans b1
      obtain ⟨q1, q2, q3, q4⟩ := a2.1
      obtain ⟨r1, r2, r3, r4⟩ := b2.1
      cases q4.symm.trans r4
      cases a3.symm.trans b3; rfl
    subst ec et
    have ev : V = V' := by cases hx.2.2.2.1.1.symm.trans hy.2.2.2.1.1; rfl
    subst ev
    have hs : SameT n f k g := (Cod.eqv hx.2.2.2.2.1 hy.2.2.2.2.1 hx.2.2.2.2.2 hy.2.2.2.2.2).mp ⟨rfl, fun _ _ => rfl⟩
    exact ⟨s₁, some (.int 1), _, _, _, X0, rfl, rfl, rfl, (fun h => by cases h), ⟨1, rfl, hh0, Or.inl ⟨rfl, hs⟩⟩, fun fs hl => c2.trans (X0.ireturnOut hexec hret rfl (Or.inr (Or.inl rfl)) (hb hbytes d6) hl)⟩
  · have c2 : Steps p.tables e below (s₁.setTop (entryFrame m #[.ref x, .ref y] 3)) (s₁.setTop (mkF m 8 #[.val (.ref x), .val (.ref y), .unset] [.ref y])) := c1.trans (by
      refine acmpYes X0.here hexec rfl (pc0 := 2) rfl (hb hbytes d2) rfl rfl rfl (by simp [acmp, hxy]) (by decide) rfl ?_
      refine XS.aloadN X0.here hexec rfl (hb hbytes d7) rfl rfl ?_
      exact Steps.refl _)
    obtain ⟨T3, X3, q3, st3⟩ := cinst X0 hexec hown (wk W (.classLink "java/lang/String" 10 "java/lang/String")) (hy.mv X0.warmed.alike hh0).1 (g := (mkF m 8 #[.val (.ref x), .val (.ref y), .unset] [.ref y])) rfl (rest := []) rfl (hb hbytes d8)
    have hh3 := q3.trans hh0
    have c4 : Steps p.tables e below (s₁.setTop (entryFrame m #[.ref x, .ref y] 3)) (T3.setTop (mkF m 15 #[.val (.ref x), .val (.ref y), .unset] [.ref y])) := (c2.trans (st3 _ (Steps.refl _))).trans (by
      refine XS.ifNo X3.here hexec rfl (hb hbytes d11) rfl (i0_eq_f (by decide)) ?_
      refine XS.aloadN X3.here hexec rfl (hb hbytes d14) rfl rfl ?_
      exact Steps.refl _)
    obtain ⟨T5, X5, q5, st5⟩ := cself X3 hexec hown (wk W (.classLink "java/lang/String" 10 "java/lang/String")) (hy.mv X3.warmed.alike hh3).1 (g := (mkF m 15 #[.val (.ref x), .val (.ref y), .unset] [.ref y])) rfl (rest := []) rfl (hb hbytes d15)
    have hh5 := q5.trans hh3
    have c6 : Steps p.tables e below (s₁.setTop (entryFrame m #[.ref x, .ref y] 3)) (T5.setTop (mkF m 19 #[.val (.ref x), .val (.ref y), .val (.ref y)] [])) := (c4.trans (st5 _ (Steps.refl _))).trans (by
      refine XS.astoreN X5.here hexec rfl (hb hbytes d18) rfl rfl rfl ?_
      exact Steps.refl _)
    obtain ⟨T7, X7, q7, st7⟩ := X5.sget hexec hown (wk W (.fieldLink "java/lang/String" 38 "java/lang/String" "COMPACT_STRINGS" "Z")) s1 (fun _ _ h => by rw [hh5]; exact h) (g := (mkF m 19 #[.val (.ref x), .val (.ref y), .val (.ref y)] [])) rfl (hb hbytes d19)
    have hh7 := q7.trans hh5
    have c8 : Steps p.tables e below (s₁.setTop (entryFrame m #[.ref x, .ref y] 3)) (T7.setTop (mkF m 26 #[.val (.ref x), .val (.ref y), .val (.ref y)] [.ref x])) := (c6.trans (st7 _ (Steps.refl _))).trans (by
      refine XS.ifNo X7.here hexec rfl (hb hbytes d22) rfl (i0_eq_f hz) ?_
      refine XS.aloadN X7.here hexec rfl (hb hbytes d25) rfl rfl ?_
      exact Steps.refl _)
    obtain ⟨T9, X9, q9, st9⟩ := X7.hget hexec hown (wk W (.fieldLink "java/lang/String" 15 "java/lang/String" "coder" "B")) (hx.mv X7.warmed.alike hh7).2.2.1 (g := (mkF m 26 #[.val (.ref x), .val (.ref y), .val (.ref y)] [.ref x])) rfl (rest := []) rfl (hb hbytes d26)
    have hh9 := q9.trans hh7
    have c10 : Steps p.tables e below (s₁.setTop (entryFrame m #[.ref x, .ref y] 3)) (T9.setTop (mkF m 30 #[.val (.ref x), .val (.ref y), .val (.ref y)] [.ref y, .int cd])) := (c8.trans (st9 _ (Steps.refl _))).trans (by
      refine XS.aloadN X9.here hexec rfl (hb hbytes d29) rfl rfl ?_
      exact Steps.refl _)
    obtain ⟨T11, X11, q11, st11⟩ := X9.hget hexec hown (wk W (.fieldLink "java/lang/String" 15 "java/lang/String" "coder" "B")) (hy.mv X9.warmed.alike hh9).2.2.1 (g := (mkF m 30 #[.val (.ref x), .val (.ref y), .val (.ref y)] [.ref y, .int cd])) rfl (rest := [.int cd]) rfl (hb hbytes d30)
    have hh11 := q11.trans hh9
    have c12 : Steps p.tables e below (s₁.setTop (entryFrame m #[.ref x, .ref y] 3)) (T11.setTop (mkF m 33 #[.val (.ref x), .val (.ref y), .val (.ref y)] [.int cd', .int cd])) := c10.trans (st11 _ (Steps.refl _))
    by_cases hcd : cd = cd'
    · subst hcd
      have c13 : Steps p.tables e below (s₁.setTop (entryFrame m #[.ref x, .ref y] 3)) (T11.setTop (mkF m 37 #[.val (.ref x), .val (.ref y), .val (.ref y)] [.ref x])) := c12.trans (by
        refine XS.icmpNo X11.here hexec rfl (hb hbytes d33) rfl (ii_ne_f rfl) ?_
        refine XS.aloadN X11.here hexec rfl (hb hbytes d36) rfl rfl ?_
        exact Steps.refl _)
      obtain ⟨T14, X14, q14, st14⟩ := X11.hget hexec hown (wk W (.fieldLink "java/lang/String" 9 "java/lang/String" "value" "[B")) (hx.mv X11.warmed.alike hh11).2.1 (g := (mkF m 37 #[.val (.ref x), .val (.ref y), .val (.ref y)] [.ref x])) rfl (rest := []) rfl (hb hbytes d37)
      have hh14 := q14.trans hh11
      have c15 : Steps p.tables e below (s₁.setTop (entryFrame m #[.ref x, .ref y] 3)) (T14.setTop (mkF m 41 #[.val (.ref x), .val (.ref y), .val (.ref y)] [.ref y, .ref t])) := (c13.trans (st14 _ (Steps.refl _))).trans (by
        refine XS.aloadN X14.here hexec rfl (hb hbytes d40) rfl rfl ?_
        exact Steps.refl _)
      obtain ⟨T16, X16, q16, st16⟩ := X14.hget hexec hown (wk W (.fieldLink "java/lang/String" 9 "java/lang/String" "value" "[B")) (hy.mv X14.warmed.alike hh14).2.1 (g := (mkF m 41 #[.val (.ref x), .val (.ref y), .val (.ref y)] [.ref y, .ref t])) rfl (rest := [.ref t]) rfl (hb hbytes d41)
      have hh16 := q16.trans hh14
      have c17 : Steps p.tables e below (s₁.setTop (entryFrame m #[.ref x, .ref y] 3)) (T16.setTop (mkF m 44 #[.val (.ref x), .val (.ref y), .val (.ref y)] [.ref t', .ref t])) := c15.trans (st16 _ (Steps.refl _))
      obtain ⟨v18, T18, X18, E18, g18⟩ := X16.callS hexec (LEq.law l t V t' V') hown (wks W (staticW "java/lang/String" 541 LEq.yN)) (wk W LEq.tab) (W := 0) (Nat.le_of_ble_eq_true rfl) (Nat.le_of_ble_eq_true rfl) (Nat.le_refl _) (Nat.le_refl _) (g := (mkF m 44 #[.val (.ref x), .val (.ref y), .val (.ref y)] [.ref t', .ref t])) rfl (by rw [hml]; rfl) c17 (argsL := [.ref t, .ref t']) (rest := []) rfl rfl (by show 2 * 0 + 0 ≤ _; decide) (hb hbytes d44) (⟨rfl, hx.2.2.2.1.mv X16.warmed.alike hh16, hx.2.2.2.2.1.ty, hy.2.2.2.1.mv X16.warmed.alike hh16, hy.2.2.2.2.1.ty⟩)
      obtain ⟨v, rfl, q18, hv⟩ := E18
      have iff := Cod.eqv hx.2.2.2.2.1 hy.2.2.2.2.1 hx.2.2.2.2.2 hy.2.2.2.2.2
      rcases hv with ⟨rfl, he⟩ | ⟨rfl, he⟩
      · have c19 : Steps p.tables e below (s₁.setTop (entryFrame m #[.ref x, .ref y] 3)) (T18.setTop (mkF m 55 #[.val (.ref x), .val (.ref y), .val (.ref y)] [.int 1])) := Steps.trans g18 (by
          refine XS.ifNo X18.here hexec rfl (hb hbytes d47) rfl (i0_eq_f (by decide)) ?_
          refine iconstV X18.here hexec rfl 1 (hb hbytes d50) (by decide) ?_
          refine XS.goto X18.here hexec rfl (pc0 := 51) rfl (hb hbytes d51) (by decide) rfl ?_
          exact Steps.refl _)
        exact ⟨T18, some (.int 1), _, _, _, X18, rfl, rfl, rfl, (fun h => by cases h), ⟨1, rfl, q18.trans hh16, Or.inl ⟨rfl, iff.mp he⟩⟩, fun fs hl => c19.trans (X18.ireturnOut hexec hret rfl (Or.inr (Or.inl rfl)) (hb hbytes d55) hl)⟩
      · have c19 : Steps p.tables e below (s₁.setTop (entryFrame m #[.ref x, .ref y] 3)) (T18.setTop (mkF m 55 #[.val (.ref x), .val (.ref y), .val (.ref y)] [.int 0])) := Steps.trans g18 (by
          refine XS.ifYes X18.here hexec rfl (pc0 := 47) rfl (hb hbytes d47) rfl (i0_eq_t rfl) (by decide) rfl ?_
          refine iconstV X18.here hexec rfl 0 (hb hbytes d54) (by decide) ?_
          exact Steps.refl _)
        exact ⟨T18, some (.int 0), _, _, _, X18, rfl, rfl, rfl, (fun h => by cases h), ⟨0, rfl, q18.trans hh16, Or.inr ⟨rfl, fun q => he (iff.mpr q)⟩⟩, fun fs hl => c19.trans (X18.ireturnOut hexec hret rfl (Or.inr (Or.inl rfl)) (hb hbytes d55) hl)⟩
    · have c13 : Steps p.tables e below (s₁.setTop (entryFrame m #[.ref x, .ref y] 3)) (T11.setTop (mkF m 55 #[.val (.ref x), .val (.ref y), .val (.ref y)] [.int 0])) := c12.trans (by
        refine XS.icmpYes X11.here hexec rfl (pc0 := 33) rfl (hb hbytes d33) rfl (ii_ne_t hcd) (by decide) rfl ?_
        refine iconstV X11.here hexec rfl 0 (hb hbytes d54) (by decide) ?_
        exact Steps.refl _)
      exact ⟨T11, some (.int 0), _, _, _, X11, rfl, rfl, rfl, (fun h => by cases h), ⟨0, rfl, hh11, Or.inr ⟨rfl, Cod.dif hx.2.2.2.2.1 hy.2.2.2.2.1 hcd⟩⟩, fun fs hl => c13.trans (X11.ireturnOut hexec hret rfl (Or.inr (Or.inl rfl)) (hb hbytes d55) hl)⟩
theorem pays {l : Launch} {R : Room} {p : Program} {e : Env} {below : List Frame} {s : State} {sargs : Array Value} {len W : Nat} (x t : Addr) (V : Cell) (cd : Int32) (n : Nat) (f : Nat → Int32) (y t' : Addr) (V' : Cell) (cd' : Int32) (k : Nat) (g : Nat → Int32) (z : Int32) (htab : tab.before sargs s = true) (hfr : 2 ≤ R.frames) (hlo : W + 28 ≤ R.locals) :
    Back l R p e below s sargs yN len W (fun A₁ a₁ => A₁.cells + 0 ≤ R.cells ∧ A₁.slots + 0 ≤ R.slots ∧ P x t V cd n f y t' V' cd' k g z a₁ A₁.U) (fun A₁ _ v₁ B₁ => Says01 (SameT n f k g) v₁ A₁.U B₁.U ∧ B₁.locs = A₁.locs ++ [] ∧ B₁.cells = A₁.cells + 0 ∧ B₁.slots = A₁.slots + 0) :=
  (law l x t V cd n f y t' V' cd' k g z).pays htab hfr (by omega)
end SEq
end StrChars
namespace StrChars.Road
open Jvm Sem ClassFile Op Lib Jvm.Stand Jvm.Free Jvm.Free.XT
open Jvm.Lib.Cold (StaticIs)
abbrev wordsEq : List Jvm.Cond := [.code SEq.yN SEq.yB 3 (some .boolean), .initialized ST, .classLink ST 10 ST, .fieldLink ST 38 ST "COMPACT_STRINGS" "Z", .fieldLink ST 15 ST "coder" "B", .fieldLink ST 9 ST "value" "[B", .methodLink ST 541 LEq.yN, .static LEq.yN, .code LEq.yN LEq.yB 3 (some .boolean), .initialized "java/lang/StringLatin1"]
theorem tabEq_of {a : Array Value} {s : State} (h : ∀ w ∈ wordsEq, w.before a s = true) : SEq.tab.before a s = true := by
  have hl : LEq.tab.before a s = true := unparts (wk h (.code LEq.yN LEq.yB 3 (some .boolean))) (wks h (.initialized LEq.yN.cls :: LEq.site))
  have q := consq hl h
  exact unparts (wk q (.code SEq.yN SEq.yB 3 (some .boolean))) (wks q (.initialized SEq.yN.cls :: SEq.site))
theorem movedEq {Z s : State} {a0 args : Array Value} (hZ : Z.Warmed39 s.vm) (hw : ∀ d ∈ wordsEq, d.before a0 Z = true) : ∀ d ∈ wordsEq, d.before args s = true := fun d hd => by
  have t : ∀ d ∈ wordsEq, (d.onTables && d.keepsFace) = true := by decide +kernel
  exact RoadKit.mv hZ (hw d hd) (t d hd)
theorem txt_of {Z U : State} {a0 : Array Value} {kI : Nat} (wi : (Jvm.Cond.instantiable ST kI).before a0 Z = true) (al : Z.vm.Alike U.vm) {x t : Addr} {kb : ClassId} {cs : List Int32} {cd N2 : Int32} {vs : List Value} (E : RoadKit.Exa Z U.heap x ST) (V : RoadKit.Fld Z U.heap x ST "value" "[B" (.ref t)) (C : RoadKit.Fld Z U.heap x ST "coder" "B" (.int cd)) (K : RoadKit.Arv Z U.heap t kb .byte N2 vs (.int 0)) (hc : CodA cs cd N2 vs) (hb : ∀ c ∈ cs, ¬ c < 0 ∧ ¬ (65535 : Int32) < c) (l2 : cs.length ≤ 4000) :
    ∃ A, Txt x t A cd cs.length (fun j => cs.getD j 0) U := by
  obtain ⟨A, K1, K2, K3, K4, K5, K6⟩ := K
  have hcod := hc.cod (by omega) K3 K5
  obtain ⟨D, fV, fC, hB, F1, F2, g1, g2, -, -⟩ := strObj wi al E V C
  exact ⟨A, ⟨_, hB.2.2.1, D, hB.1, rfl, by cases q : D.vm <;> first | rfl | exact absurd q (hB.2.1.2 _)⟩, Has.of hB F1 g1, Has.of hB F2 g2, ⟨K1.1, State.isArrayOf_alike al K1.2.1, K1.2.2, by rcases hcod with ⟨-, q, -⟩ | ⟨-, q, -⟩ <;> omega⟩, hcod, fun j hj => by
    have e : cs.getD j 0 = cs[j] := by simp [List.getD_eq_getElem?_getD, hj]
    show ¬ cs.getD j 0 < 0 ∧ ¬ 65535 < cs.getD j 0
    rw [e]; exact hb _ (List.getElem_mem _)⟩
theorem same_list (cs ds : List Int32) : SameT cs.length (fun j => cs.getD j 0) ds.length (fun j => ds.getD j 0) ↔ cs = ds := by
  constructor
  · rintro ⟨e, q⟩
    refine List.ext_getElem e fun j h1 h2 => ?_
    have := q j h1
    simpa [List.getD_eq_getElem?_getD, h1, h2] using this
  · rintro rfl
    exact ⟨rfl, fun _ _ => rfl⟩
theorem eqW {p : Program} {l : Launch} {e : Env} {R : Room} {s : State} {args : Array Value} {below : List Frame} {len W : Nat} {Z : State} {a0 : Array Value} {h : Heap} (hZ : Z.Warmed39 s.vm) (hw : ∀ d ∈ wordsEq, d.before a0 Z = true) {kI : Nat} (wi : (Jvm.Cond.instantiable ST kI).before a0 Z = true)
    {x t : Addr} {kb : ClassId} {cs : List Int32} {cd N2 : Int32} {vs : List Value} (E : RoadKit.Exa Z h x ST) (V : RoadKit.Fld Z h x ST "value" "[B" (.ref t)) (C : RoadKit.Fld Z h x ST "coder" "B" (.int cd)) (K : RoadKit.Arv Z h t kb .byte N2 vs (.int 0)) (hc : CodA cs cd N2 vs) (hb : ∀ c ∈ cs, ¬ c < 0 ∧ ¬ (65535 : Int32) < c) (l2 : cs.length ≤ 4000)
    {y t' : Addr} {kb' : ClassId} {ds : List Int32} {cd' N2' : Int32} {vs' : List Value} (E' : RoadKit.Exa Z h y ST) (V' : RoadKit.Fld Z h y ST "value" "[B" (.ref t')) (C' : RoadKit.Fld Z h y ST "coder" "B" (.int cd')) (K' : RoadKit.Arv Z h t' kb' .byte N2' vs' (.int 0)) (hc' : CodA ds cd' N2' vs') (hb' : ∀ c ∈ ds, ¬ c < 0 ∧ ¬ (65535 : Int32) < c) (l2' : ds.length ≤ 4000)
    {z : Int32} (S : RoadKit.Sta Z h ST "COMPACT_STRINGS" "Z" (.int z)) (hz : ¬ z = 0) (hfr : 2 ≤ R.frames) (hlo : W + 28 ≤ R.locals) :
    Back l R p e below s args (⟨"java/lang/String", "equals", "(Ljava/lang/Object;)Z"⟩ : MethodName) len W (fun P a => a = #[.ref x, .ref y] ∧ P.U.heap = h ∧ P.cells + 0 ≤ R.cells ∧ P.slots + 0 ≤ R.slots)
      (fun P _ v B => ∃ L, (((v = some (.int 1) ∧ cs = ds) ∨ (v = some (.int 0) ∧ ¬ cs = ds)) ∧ L = [] ∧ B.U.heap = h) ∧ B.locs = P.locs ++ L ∧ B.cells = P.cells + 0 ∧ B.slots = P.slots + 0) := by
  intro m meth c P g ig mk a X hg hsize hdg hW hn hp'
  obtain ⟨rfl, rfl, r1, r2⟩ := hp'
  have al : Z.vm.Alike P.U.vm := hZ.alike.trans X.warmed.alike
  obtain ⟨A, hx⟩ := txt_of wi al E V C K hc hb l2
  obtain ⟨A', hy⟩ := txt_of wi al E' V' C' K' hc' hb' l2'
  obtain ⟨v, B, X', ⟨⟨w, hv, hh, hq⟩, hl, hk, hs⟩, st⟩ := SEq.pays x t A cd cs.length (fun j => cs.getD j 0) y t' A' cd' ds.length (fun j => ds.getD j 0) z (tabEq_of (movedEq hZ hw)) hfr hlo m meth c P g ig mk _ X hg hsize hdg hW hn ⟨r1, r2, rfl, hx, hy, sta_is al S, hz⟩
  refine ⟨v, B, X', ⟨[], ⟨?_, rfl, hh⟩, hl, hk, hs⟩, st⟩
  rcases hq with ⟨rfl, q⟩ | ⟨rfl, q⟩
  · exact Or.inl ⟨hv, (same_list cs ds).mp q⟩
  · exact Or.inr ⟨hv, fun e => q ((same_list cs ds).mpr e)⟩
end StrChars.Road
namespace StrChars.Road
open Jvm Sem ClassFile Op Lib Jvm.Stand Jvm.Free Jvm.Free.XT
open Jvm.Lib.Cold (StaticIs)
theorem codOf {cs : List Int32} {n : Nat} (hn : cs.length = n) (hb : ∀ c ∈ cs, ¬ 255 < c) : CodA cs 0 (Int32.ofNat n) ((cs.map lo8).map Value.int) := Or.inl ⟨rfl, by rw [hn], by simp [List.map_map, Function.comp_def], hb⟩
end StrChars.Road
end Jvm.Pilot.@@N@@
namespace Jvm.Pilot.@@N@@
open Jvm Jvm.ClassFile Sem Op Lib Jvm.Free Jvm.Stand Jvm.LawKit Jvm.RoadKit Bundle Jvm.Pilot.@@N@@.Jvm.D
theorem d1_0 : decode method_2_code 0 = .ok (.iload_n 0, 1) := by decide +kernel
theorem d1_1 : decode method_2_code 1 = .ok (.ifCond .ne 7, 3) := by decide +kernel
theorem d1_4 : decode method_2_code 4 = .ok (.getstatic 7, 3) := by decide +kernel
theorem d1_7 : decode method_2_code 7 = .ok (.areturn, 1) := by decide +kernel
theorem d1_8 : decode method_2_code 8 = .ok (.iload_n 0, 1) := by decide +kernel
theorem d1_9 : decode method_2_code 9 = .ok (.iconst 1, 1) := by decide +kernel
theorem d1_10 : decode method_2_code 10 = .ok (.if_icmp .ne 7, 3) := by decide +kernel
theorem d1_13 : decode method_2_code 13 = .ok (.getstatic 13, 3) := by decide +kernel
theorem d1_16 : decode method_2_code 16 = .ok (.areturn, 1) := by decide +kernel
theorem d1_17 : decode method_2_code 17 = .ok (.iload_n 0, 1) := by decide +kernel
theorem d1_18 : decode method_2_code 18 = .ok (.iconst 2, 1) := by decide +kernel
theorem d1_19 : decode method_2_code 19 = .ok (.if_icmp .ne 7, 3) := by decide +kernel
theorem d1_22 : decode method_2_code 22 = .ok (.getstatic 16, 3) := by decide +kernel
theorem d1_25 : decode method_2_code 25 = .ok (.areturn, 1) := by decide +kernel
theorem d1_26 : decode method_2_code 26 = .ok (.iload_n 0, 1) := by decide +kernel
theorem d1_27 : decode method_2_code 27 = .ok (.iconst 3, 1) := by decide +kernel
theorem d1_28 : decode method_2_code 28 = .ok (.if_icmp .ne 7, 3) := by decide +kernel
theorem d1_31 : decode method_2_code 31 = .ok (.getstatic 19, 3) := by decide +kernel
theorem d1_34 : decode method_2_code 34 = .ok (.areturn, 1) := by decide +kernel
theorem d1_35 : decode method_2_code 35 = .ok (.getstatic 22, 3) := by decide +kernel
theorem d1_38 : decode method_2_code 38 = .ok (.areturn, 1) := by decide +kernel
theorem d2_0 : decode prog_5_method_4_code 0 = .ok (.aload_n 0, 1) := by decide +kernel
theorem d2_1 : decode prog_5_method_4_code 1 = .ok (.getfield 38, 3) := by decide +kernel
theorem d2_4 : decode prog_5_method_4_code 4 = .ok (.areturn, 1) := by decide +kernel
theorem d5_0 : decode prog_5_method_9_code 0 = .ok (.aload_n 0, 1) := by decide +kernel
theorem d5_1 : decode prog_5_method_9_code 1 = .ok (.getstatic 3, 3) := by decide +kernel
theorem d5_4 : decode prog_5_method_9_code 4 = .ok (.if_acmp .eq 10, 3) := by decide +kernel
theorem d5_7 : decode prog_5_method_9_code 7 = .ok (.aload_n 0, 1) := by decide +kernel
theorem d5_8 : decode prog_5_method_9_code 8 = .ok (.getstatic 10, 3) := by decide +kernel
theorem d5_11 : decode prog_5_method_9_code 11 = .ok (.if_acmp .ne 7, 3) := by decide +kernel
theorem d5_14 : decode prog_5_method_9_code 14 = .ok (.iconst 1, 1) := by decide +kernel
theorem d5_15 : decode prog_5_method_9_code 15 = .ok (.goto 4, 3) := by decide +kernel
theorem d5_18 : decode prog_5_method_9_code 18 = .ok (.iconst 0, 1) := by decide +kernel
theorem d5_19 : decode prog_5_method_9_code 19 = .ok (.ireturn, 1) := by decide +kernel
theorem pn0 : plainFor (⟨"com/example/bracegraph/bracegraph/io/FormatWritesPinLaw", "law", "(I)Z"⟩ : MethodName) = true := plainFor_of_name (by first | (simp [plainName, overriddenIn]; done) | decide +kernel)
theorem pn1 : plainFor (⟨"com/example/bracegraph/bracegraph/io/FormatWritesPinLaw", "pick", "(I)Lcom/example/bracegraph/bracegraph/io/Format;"⟩ : MethodName) = true := plainFor_of_name (by first | (simp [plainName, overriddenIn]; done) | decide +kernel)
theorem pd1 : parseMethodDescriptor "(I)Lcom/example/bracegraph/bracegraph/io/Format;" = some ⟨[.int], some (.object "com/example/bracegraph/bracegraph/io/Format")⟩ := by decide +kernel
theorem pn2 : plainFor (⟨"com/example/bracegraph/bracegraph/io/Format", "extension", "()Ljava/lang/String;"⟩ : MethodName) = true := plainFor_of_name (by first | (simp [plainName, overriddenIn]; done) | decide +kernel)
theorem pd2 : parseMethodDescriptor "()Ljava/lang/String;" = some ⟨[], some (.object "java/lang/String")⟩ := by decide +kernel
theorem pn3 : plainFor (⟨"java/lang/String", "equals", "(Ljava/lang/Object;)Z"⟩ : MethodName) = true := plainFor_of_name (by first | (simp [plainName, overriddenIn]; done) | decide +kernel)
theorem pd3 : parseMethodDescriptor "(Ljava/lang/Object;)Z" = some ⟨[(.object "java/lang/Object")], some .boolean⟩ := by decide +kernel
theorem pn4 : plainFor (⟨"java/lang/StringLatin1", "equals", "([B[B)Z"⟩ : MethodName) = true := plainFor_of_name (by first | (simp [plainName, overriddenIn]; done) | decide +kernel)
theorem pd4 : parseMethodDescriptor "([B[B)Z" = some ⟨[(.array .byte), (.array .byte)], some .boolean⟩ := by decide +kernel
theorem pn5 : plainFor (⟨"com/example/bracegraph/bracegraph/io/Format", "writes", "()Z"⟩ : MethodName) = true := plainFor_of_name (by first | (simp [plainName, overriddenIn]; done) | decide +kernel)
theorem pd5 : parseMethodDescriptor "()Z" = some ⟨[], some .boolean⟩ := by decide +kernel
theorem pick0 {l : Launch} {Z : State} {a0 : Array Value} (hw : ∀ d ∈ tables_1, d.before a0 Z = true) {h0 : Heap} {f : Addr} (S : Sta Z h0 "com/example/bracegraph/bracegraph/io/Format" "NQUADS" "Lcom/example/bracegraph/bracegraph/io/Format;" (.ref f)) : MetFree l (⟨"com/example/bracegraph/bracegraph/io/FormatWritesPinLaw", "pick", "(I)Lcom/example/bracegraph/bracegraph/io/Format;"⟩ : MethodName) (head1 (Jvm.Cond.code (⟨"com/example/bracegraph/bracegraph/io/FormatWritesPinLaw", "pick", "(I)Lcom/example/bracegraph/bracegraph/io/Format;"⟩ : MethodName) method_2_code 1 (some (.object "com/example/bracegraph/bracegraph/io/Format")) :: []) ({ frames := 0, cells := 0, slots := 0, locals := 0 } : Room)) (fun a U => a = #[(.int 0)] ∧ Z.Warmed39 U.vm ∧ U.heap = h0) (fun _ _ _ _ _ => True) (fun _ U o U' => ∃ v L, o = .returned v ∧ (v = some (.ref f) ∧ L = [] ∧ U'.heap = h0) ∧ FrameEnd U o U' L ({ frames := 0, cells := 0, slots := 0, locals := 0 } : Room).cells ({ frames := 0, cells := 0, slots := 0, locals := 0 } : Room).slots) := by
  refine MetFree.of_bodySF pn1 hisR ?_
  intro p e s m args below meth c s₁ Bd hml0 hP hK
  obtain ⟨rfl, hZ, hh⟩ := hP
  have hx := Bd.exec
  have hby := Bd.bytes
  have hown : s.vm.findClass "com/example/bracegraph/bracegraph/io/FormatWritesPinLaw" = some m.cls := findClass_of_methodNamed Bd.named
  have X0 : Stand p l e ({ frames := 0, cells := 0, slots := 0, locals := 0 } : Room) s m #[(.int 0)] below meth c s₁ [] 0 0 := Stand.of_body Bd
  have e0 : s₁.heap = h0 := by rw [← hh, Bd.state]; rfl
  have pre0 : ∀ t, Steps p.tables e below (s₁.setTop (mkF m 0 #[.val (.int 0)] [])) t → Steps p.tables e below (s₁.setTop (entryFrame m #[(.int 0)] 1)) t := fun t k => castTop (by first | rfl | simp [entryFrame, mkF, argsToLocals, Value.category]) k
  obtain ⟨T1, X1, e1, st1⟩ := getS2 X0 hx hZ (a0 := a0) hown (host := "") (Or.inl (hw _ (List.mem_of_getElem? (i := 5) rfl))) Via.refl e0 S (g := mkF m 4 #[.val (.int 0)] []) rfl (hb hby d1_4)
  obtain ⟨fs, hr, hrun, hended, hW, hsame⟩ := X1.leave (v := some (.ref f)) (fun h => by rw [Bd.returns] at h; cases h)
  refine ⟨_, _, pre0 _ ?_, hrun, hended, _, _, rfl, ⟨rfl, rfl, e1⟩, ⟨_, rfl⟩, hW, hsame.mono (Nat.le_of_ble_eq_true rfl) (Nat.le_of_ble_eq_true rfl)⟩
  refine XS.iloadN X0.here hx rfl (hb hby d1_0) rfl ?_
  refine XS.ifNo X0.here hx rfl (hb hby d1_1) rfl (XT.i0_ne_f rfl) ?_
  refine st1 _ ?_
  exact retOut X1 hx (t := .object "com/example/bracegraph/bracegraph/io/Format") Bd.returns rfl (Or.inr (Or.inr (Or.inr (Or.inr ⟨rfl, rfl, rfl⟩)))) (hb hby d1_7) hr
theorem pick1 {l : Launch} {Z : State} {a0 : Array Value} (hw : ∀ d ∈ tables_1, d.before a0 Z = true) {h0 : Heap} {f : Addr} (S : Sta Z h0 "com/example/bracegraph/bracegraph/io/Format" "NTRIPLES" "Lcom/example/bracegraph/bracegraph/io/Format;" (.ref f)) : MetFree l (⟨"com/example/bracegraph/bracegraph/io/FormatWritesPinLaw", "pick", "(I)Lcom/example/bracegraph/bracegraph/io/Format;"⟩ : MethodName) (head1 (Jvm.Cond.code (⟨"com/example/bracegraph/bracegraph/io/FormatWritesPinLaw", "pick", "(I)Lcom/example/bracegraph/bracegraph/io/Format;"⟩ : MethodName) method_2_code 1 (some (.object "com/example/bracegraph/bracegraph/io/Format")) :: []) ({ frames := 0, cells := 0, slots := 0, locals := 0 } : Room)) (fun a U => a = #[(.int 1)] ∧ Z.Warmed39 U.vm ∧ U.heap = h0) (fun _ _ _ _ _ => True) (fun _ U o U' => ∃ v L, o = .returned v ∧ (v = some (.ref f) ∧ L = [] ∧ U'.heap = h0) ∧ FrameEnd U o U' L ({ frames := 0, cells := 0, slots := 0, locals := 0 } : Room).cells ({ frames := 0, cells := 0, slots := 0, locals := 0 } : Room).slots) := by
  refine MetFree.of_bodySF pn1 hisR ?_
  intro p e s m args below meth c s₁ Bd hml0 hP hK
  obtain ⟨rfl, hZ, hh⟩ := hP
  have hx := Bd.exec
  have hby := Bd.bytes
  have hown : s.vm.findClass "com/example/bracegraph/bracegraph/io/FormatWritesPinLaw" = some m.cls := findClass_of_methodNamed Bd.named
  have X0 : Stand p l e ({ frames := 0, cells := 0, slots := 0, locals := 0 } : Room) s m #[(.int 1)] below meth c s₁ [] 0 0 := Stand.of_body Bd
  have e0 : s₁.heap = h0 := by rw [← hh, Bd.state]; rfl
  have pre0 : ∀ t, Steps p.tables e below (s₁.setTop (mkF m 0 #[.val (.int 1)] [])) t → Steps p.tables e below (s₁.setTop (entryFrame m #[(.int 1)] 1)) t := fun t k => castTop (by first | rfl | simp [entryFrame, mkF, argsToLocals, Value.category]) k
  obtain ⟨T1, X1, e1, st1⟩ := getS2 X0 hx hZ (a0 := a0) hown (host := "") (Or.inl (hw _ (List.mem_of_getElem? (i := 48) rfl))) Via.refl e0 S (g := mkF m 13 #[.val (.int 1)] []) rfl (hb hby d1_13)
  obtain ⟨fs, hr, hrun, hended, hW, hsame⟩ := X1.leave (v := some (.ref f)) (fun h => by rw [Bd.returns] at h; cases h)
  refine ⟨_, _, pre0 _ ?_, hrun, hended, _, _, rfl, ⟨rfl, rfl, e1⟩, ⟨_, rfl⟩, hW, hsame.mono (Nat.le_of_ble_eq_true rfl) (Nat.le_of_ble_eq_true rfl)⟩
  refine XS.iloadN X0.here hx rfl (hb hby d1_0) rfl ?_
  refine XS.ifYes X0.here hx rfl (pc0 := 1) rfl (hb hby d1_1) rfl (XT.i0_ne_t (by decide)) (by decide) rfl ?_
  refine XS.iloadN X0.here hx rfl (hb hby d1_8) rfl ?_
  refine XS.iconst X0.here hx rfl (hb hby d1_9) ?_
  refine XS.icmpNo X0.here hx rfl (hb hby d1_10) rfl (XT.ii_ne_f rfl) ?_
  refine st1 _ ?_
  exact retOut X1 hx (t := .object "com/example/bracegraph/bracegraph/io/Format") Bd.returns rfl (Or.inr (Or.inr (Or.inr (Or.inr ⟨rfl, rfl, rfl⟩)))) (hb hby d1_16) hr
theorem pick2 {l : Launch} {Z : State} {a0 : Array Value} (hw : ∀ d ∈ tables_1, d.before a0 Z = true) {h0 : Heap} {f : Addr} (S : Sta Z h0 "com/example/bracegraph/bracegraph/io/Format" "TRIG" "Lcom/example/bracegraph/bracegraph/io/Format;" (.ref f)) : MetFree l (⟨"com/example/bracegraph/bracegraph/io/FormatWritesPinLaw", "pick", "(I)Lcom/example/bracegraph/bracegraph/io/Format;"⟩ : MethodName) (head1 (Jvm.Cond.code (⟨"com/example/bracegraph/bracegraph/io/FormatWritesPinLaw", "pick", "(I)Lcom/example/bracegraph/bracegraph/io/Format;"⟩ : MethodName) method_2_code 1 (some (.object "com/example/bracegraph/bracegraph/io/Format")) :: []) ({ frames := 0, cells := 0, slots := 0, locals := 0 } : Room)) (fun a U => a = #[(.int 2)] ∧ Z.Warmed39 U.vm ∧ U.heap = h0) (fun _ _ _ _ _ => True) (fun _ U o U' => ∃ v L, o = .returned v ∧ (v = some (.ref f) ∧ L = [] ∧ U'.heap = h0) ∧ FrameEnd U o U' L ({ frames := 0, cells := 0, slots := 0, locals := 0 } : Room).cells ({ frames := 0, cells := 0, slots := 0, locals := 0 } : Room).slots) := by
  refine MetFree.of_bodySF pn1 hisR ?_
  intro p e s m args below meth c s₁ Bd hml0 hP hK
  obtain ⟨rfl, hZ, hh⟩ := hP
  have hx := Bd.exec
  have hby := Bd.bytes
  have hown : s.vm.findClass "com/example/bracegraph/bracegraph/io/FormatWritesPinLaw" = some m.cls := findClass_of_methodNamed Bd.named
  have X0 : Stand p l e ({ frames := 0, cells := 0, slots := 0, locals := 0 } : Room) s m #[(.int 2)] below meth c s₁ [] 0 0 := Stand.of_body Bd
  have e0 : s₁.heap = h0 := by rw [← hh, Bd.state]; rfl
  have pre0 : ∀ t, Steps p.tables e below (s₁.setTop (mkF m 0 #[.val (.int 2)] [])) t → Steps p.tables e below (s₁.setTop (entryFrame m #[(.int 2)] 1)) t := fun t k => castTop (by first | rfl | simp [entryFrame, mkF, argsToLocals, Value.category]) k
  obtain ⟨T1, X1, e1, st1⟩ := getS2 X0 hx hZ (a0 := a0) hown (host := "") (Or.inl (hw _ (List.mem_of_getElem? (i := 52) rfl))) Via.refl e0 S (g := mkF m 22 #[.val (.int 2)] []) rfl (hb hby d1_22)
  obtain ⟨fs, hr, hrun, hended, hW, hsame⟩ := X1.leave (v := some (.ref f)) (fun h => by rw [Bd.returns] at h; cases h)
  refine ⟨_, _, pre0 _ ?_, hrun, hended, _, _, rfl, ⟨rfl, rfl, e1⟩, ⟨_, rfl⟩, hW, hsame.mono (Nat.le_of_ble_eq_true rfl) (Nat.le_of_ble_eq_true rfl)⟩
  refine XS.iloadN X0.here hx rfl (hb hby d1_0) rfl ?_
  refine XS.ifYes X0.here hx rfl (pc0 := 1) rfl (hb hby d1_1) rfl (XT.i0_ne_t (by decide)) (by decide) rfl ?_
  refine XS.iloadN X0.here hx rfl (hb hby d1_8) rfl ?_
  refine XS.iconst X0.here hx rfl (hb hby d1_9) ?_
  refine XS.icmpYes X0.here hx rfl (pc0 := 10) rfl (hb hby d1_10) rfl (XT.ii_ne_t (by decide)) (by decide) rfl ?_
  refine XS.iloadN X0.here hx rfl (hb hby d1_17) rfl ?_
  refine XS.iconst X0.here hx rfl (hb hby d1_18) ?_
  refine XS.icmpNo X0.here hx rfl (hb hby d1_19) rfl (XT.ii_ne_f rfl) ?_
  refine st1 _ ?_
  exact retOut X1 hx (t := .object "com/example/bracegraph/bracegraph/io/Format") Bd.returns rfl (Or.inr (Or.inr (Or.inr (Or.inr ⟨rfl, rfl, rfl⟩)))) (hb hby d1_25) hr
theorem pick3 {l : Launch} {Z : State} {a0 : Array Value} (hw : ∀ d ∈ tables_1, d.before a0 Z = true) {h0 : Heap} {f : Addr} (S : Sta Z h0 "com/example/bracegraph/bracegraph/io/Format" "TURTLE" "Lcom/example/bracegraph/bracegraph/io/Format;" (.ref f)) : MetFree l (⟨"com/example/bracegraph/bracegraph/io/FormatWritesPinLaw", "pick", "(I)Lcom/example/bracegraph/bracegraph/io/Format;"⟩ : MethodName) (head1 (Jvm.Cond.code (⟨"com/example/bracegraph/bracegraph/io/FormatWritesPinLaw", "pick", "(I)Lcom/example/bracegraph/bracegraph/io/Format;"⟩ : MethodName) method_2_code 1 (some (.object "com/example/bracegraph/bracegraph/io/Format")) :: []) ({ frames := 0, cells := 0, slots := 0, locals := 0 } : Room)) (fun a U => a = #[(.int 3)] ∧ Z.Warmed39 U.vm ∧ U.heap = h0) (fun _ _ _ _ _ => True) (fun _ U o U' => ∃ v L, o = .returned v ∧ (v = some (.ref f) ∧ L = [] ∧ U'.heap = h0) ∧ FrameEnd U o U' L ({ frames := 0, cells := 0, slots := 0, locals := 0 } : Room).cells ({ frames := 0, cells := 0, slots := 0, locals := 0 } : Room).slots) := by
  refine MetFree.of_bodySF pn1 hisR ?_
  intro p e s m args below meth c s₁ Bd hml0 hP hK
  obtain ⟨rfl, hZ, hh⟩ := hP
  have hx := Bd.exec
  have hby := Bd.bytes
  have hown : s.vm.findClass "com/example/bracegraph/bracegraph/io/FormatWritesPinLaw" = some m.cls := findClass_of_methodNamed Bd.named
  have X0 : Stand p l e ({ frames := 0, cells := 0, slots := 0, locals := 0 } : Room) s m #[(.int 3)] below meth c s₁ [] 0 0 := Stand.of_body Bd
  have e0 : s₁.heap = h0 := by rw [← hh, Bd.state]; rfl
  have pre0 : ∀ t, Steps p.tables e below (s₁.setTop (mkF m 0 #[.val (.int 3)] [])) t → Steps p.tables e below (s₁.setTop (entryFrame m #[(.int 3)] 1)) t := fun t k => castTop (by first | rfl | simp [entryFrame, mkF, argsToLocals, Value.category]) k
  obtain ⟨T1, X1, e1, st1⟩ := getS2 X0 hx hZ (a0 := a0) hown (host := "") (Or.inl (hw _ (List.mem_of_getElem? (i := 43) rfl))) Via.refl e0 S (g := mkF m 31 #[.val (.int 3)] []) rfl (hb hby d1_31)
  obtain ⟨fs, hr, hrun, hended, hW, hsame⟩ := X1.leave (v := some (.ref f)) (fun h => by rw [Bd.returns] at h; cases h)
  refine ⟨_, _, pre0 _ ?_, hrun, hended, _, _, rfl, ⟨rfl, rfl, e1⟩, ⟨_, rfl⟩, hW, hsame.mono (Nat.le_of_ble_eq_true rfl) (Nat.le_of_ble_eq_true rfl)⟩
  refine XS.iloadN X0.here hx rfl (hb hby d1_0) rfl ?_
  refine XS.ifYes X0.here hx rfl (pc0 := 1) rfl (hb hby d1_1) rfl (XT.i0_ne_t (by decide)) (by decide) rfl ?_
  refine XS.iloadN X0.here hx rfl (hb hby d1_8) rfl ?_
  refine XS.iconst X0.here hx rfl (hb hby d1_9) ?_
  refine XS.icmpYes X0.here hx rfl (pc0 := 10) rfl (hb hby d1_10) rfl (XT.ii_ne_t (by decide)) (by decide) rfl ?_
  refine XS.iloadN X0.here hx rfl (hb hby d1_17) rfl ?_
  refine XS.iconst X0.here hx rfl (hb hby d1_18) ?_
  refine XS.icmpYes X0.here hx rfl (pc0 := 19) rfl (hb hby d1_19) rfl (XT.ii_ne_t (by decide)) (by decide) rfl ?_
  refine XS.iloadN X0.here hx rfl (hb hby d1_26) rfl ?_
  refine XS.iconst X0.here hx rfl (hb hby d1_27) ?_
  refine XS.icmpNo X0.here hx rfl (hb hby d1_28) rfl (XT.ii_ne_f rfl) ?_
  refine st1 _ ?_
  exact retOut X1 hx (t := .object "com/example/bracegraph/bracegraph/io/Format") Bd.returns rfl (Or.inr (Or.inr (Or.inr (Or.inr ⟨rfl, rfl, rfl⟩)))) (hb hby d1_34) hr
theorem pick4 {l : Launch} {Z : State} {a0 : Array Value} (hw : ∀ d ∈ tables_1, d.before a0 Z = true) {h0 : Heap} {f : Addr} (S : Sta Z h0 "com/example/bracegraph/bracegraph/io/Format" "N3" "Lcom/example/bracegraph/bracegraph/io/Format;" (.ref f)) : MetFree l (⟨"com/example/bracegraph/bracegraph/io/FormatWritesPinLaw", "pick", "(I)Lcom/example/bracegraph/bracegraph/io/Format;"⟩ : MethodName) (head1 (Jvm.Cond.code (⟨"com/example/bracegraph/bracegraph/io/FormatWritesPinLaw", "pick", "(I)Lcom/example/bracegraph/bracegraph/io/Format;"⟩ : MethodName) method_2_code 1 (some (.object "com/example/bracegraph/bracegraph/io/Format")) :: []) ({ frames := 0, cells := 0, slots := 0, locals := 0 } : Room)) (fun a U => a = #[(.int 4)] ∧ Z.Warmed39 U.vm ∧ U.heap = h0) (fun _ _ _ _ _ => True) (fun _ U o U' => ∃ v L, o = .returned v ∧ (v = some (.ref f) ∧ L = [] ∧ U'.heap = h0) ∧ FrameEnd U o U' L ({ frames := 0, cells := 0, slots := 0, locals := 0 } : Room).cells ({ frames := 0, cells := 0, slots := 0, locals := 0 } : Room).slots) := by
  refine MetFree.of_bodySF pn1 hisR ?_
  intro p e s m args below meth c s₁ Bd hml0 hP hK
  obtain ⟨rfl, hZ, hh⟩ := hP
  have hx := Bd.exec
  have hby := Bd.bytes
  have hown : s.vm.findClass "com/example/bracegraph/bracegraph/io/FormatWritesPinLaw" = some m.cls := findClass_of_methodNamed Bd.named
  have X0 : Stand p l e ({ frames := 0, cells := 0, slots := 0, locals := 0 } : Room) s m #[(.int 4)] below meth c s₁ [] 0 0 := Stand.of_body Bd
  have e0 : s₁.heap = h0 := by rw [← hh, Bd.state]; rfl
  have pre0 : ∀ t, Steps p.tables e below (s₁.setTop (mkF m 0 #[.val (.int 4)] [])) t → Steps p.tables e below (s₁.setTop (entryFrame m #[(.int 4)] 1)) t := fun t k => castTop (by first | rfl | simp [entryFrame, mkF, argsToLocals, Value.category]) k
  obtain ⟨T1, X1, e1, st1⟩ := getS2 X0 hx hZ (a0 := a0) hown (host := "") (Or.inl (hw _ (List.mem_of_getElem? (i := 50) rfl))) Via.refl e0 S (g := mkF m 35 #[.val (.int 4)] []) rfl (hb hby d1_35)
  obtain ⟨fs, hr, hrun, hended, hW, hsame⟩ := X1.leave (v := some (.ref f)) (fun h => by rw [Bd.returns] at h; cases h)
  refine ⟨_, _, pre0 _ ?_, hrun, hended, _, _, rfl, ⟨rfl, rfl, e1⟩, ⟨_, rfl⟩, hW, hsame.mono (Nat.le_of_ble_eq_true rfl) (Nat.le_of_ble_eq_true rfl)⟩
  refine XS.iloadN X0.here hx rfl (hb hby d1_0) rfl ?_
  refine XS.ifYes X0.here hx rfl (pc0 := 1) rfl (hb hby d1_1) rfl (XT.i0_ne_t (by decide)) (by decide) rfl ?_
  refine XS.iloadN X0.here hx rfl (hb hby d1_8) rfl ?_
  refine XS.iconst X0.here hx rfl (hb hby d1_9) ?_
  refine XS.icmpYes X0.here hx rfl (pc0 := 10) rfl (hb hby d1_10) rfl (XT.ii_ne_t (by decide)) (by decide) rfl ?_
  refine XS.iloadN X0.here hx rfl (hb hby d1_17) rfl ?_
  refine XS.iconst X0.here hx rfl (hb hby d1_18) ?_
  refine XS.icmpYes X0.here hx rfl (pc0 := 19) rfl (hb hby d1_19) rfl (XT.ii_ne_t (by decide)) (by decide) rfl ?_
  refine XS.iloadN X0.here hx rfl (hb hby d1_26) rfl ?_
  refine XS.iconst X0.here hx rfl (hb hby d1_27) ?_
  refine XS.icmpYes X0.here hx rfl (pc0 := 28) rfl (hb hby d1_28) rfl (XT.ii_ne_t (by decide)) (by decide) rfl ?_
  refine st1 _ ?_
  exact retOut X1 hx (t := .object "com/example/bracegraph/bracegraph/io/Format") Bd.returns rfl (Or.inr (Or.inr (Or.inr (Or.inr ⟨rfl, rfl, rfl⟩)))) (hb hby d1_38) hr
theorem ext1 {l : Launch} {Z : State} {a0 : Array Value} (hw : ∀ d ∈ tables_1, d.before a0 Z = true) {h0 : Heap} {f x : Addr} (F : Fld Z h0 f "com/example/bracegraph/bracegraph/io/Format" "extension" "Ljava/lang/String;" (.ref x)) : MetFree l (⟨"com/example/bracegraph/bracegraph/io/Format", "extension", "()Ljava/lang/String;"⟩ : MethodName) (head1 (Jvm.Cond.code (⟨"com/example/bracegraph/bracegraph/io/Format", "extension", "()Ljava/lang/String;"⟩ : MethodName) prog_5_method_4_code 1 (some (.object "java/lang/String")) :: []) ({ frames := 0, cells := 0, slots := 0, locals := 0 } : Room)) (fun a U => a = #[(.ref f)] ∧ Z.Warmed39 U.vm ∧ U.heap = h0) (fun _ _ _ _ _ => True) (fun _ U o U' => ∃ v L, o = .returned v ∧ (v = some (.ref x) ∧ L = [] ∧ U'.heap = h0) ∧ FrameEnd U o U' L ({ frames := 0, cells := 0, slots := 0, locals := 0 } : Room).cells ({ frames := 0, cells := 0, slots := 0, locals := 0 } : Room).slots) := by
  refine MetFree.of_bodySF pn2 hisR ?_
  intro p e s m args below meth c s₁ Bd hml0 hP hK
  obtain ⟨rfl, hZ, hh⟩ := hP
  have hx := Bd.exec
  have hby := Bd.bytes
  have hown : s.vm.findClass "com/example/bracegraph/bracegraph/io/Format" = some m.cls := findClass_of_methodNamed Bd.named
  have X0 : Stand p l e ({ frames := 0, cells := 0, slots := 0, locals := 0 } : Room) s m #[(.ref f)] below meth c s₁ [] 0 0 := Stand.of_body Bd
  have e0 : s₁.heap = h0 := by rw [← hh, Bd.state]; rfl
  have pre0 : ∀ t, Steps p.tables e below (s₁.setTop (mkF m 0 #[.val (.ref f)] [])) t → Steps p.tables e below (s₁.setTop (entryFrame m #[(.ref f)] 1)) t := fun t k => castTop (by first | rfl | simp [entryFrame, mkF, argsToLocals, Value.category]) k
  obtain ⟨T1, X1, e1, st1⟩ := getF X0 hx hZ (a0 := a0) hown (host := "") (Or.inl (hw _ (List.mem_of_getElem? (i := 13) rfl))) Via.refl e0 F (g := mkF m 1 #[.val (.ref f)] [.ref f]) rfl rfl (hb hby d2_1)
  obtain ⟨fs, hr, hrun, hended, hW, hsame⟩ := X1.leave (v := some (.ref x)) (fun h => by rw [Bd.returns] at h; cases h)
  refine ⟨_, _, pre0 _ ?_, hrun, hended, _, _, rfl, ⟨rfl, rfl, e1⟩, ⟨_, rfl⟩, hW, hsame.mono (Nat.le_of_ble_eq_true rfl) (Nat.le_of_ble_eq_true rfl)⟩
  refine XS.aloadN X0.here hx rfl (hb hby d2_0) rfl rfl ?_
  refine st1 _ ?_
  exact retOut X1 hx (t := .object "java/lang/String") Bd.returns rfl (Or.inr (Or.inr (Or.inr (Or.inr ⟨rfl, rfl, rfl⟩)))) (hb hby d2_4) hr
theorem wrA {l : Launch} {Z : State} {a0 : Array Value} (hw : ∀ d ∈ tables_1, d.before a0 Z = true) {h0 : Heap} {f fN fT : Addr} (SN : Sta Z h0 "com/example/bracegraph/bracegraph/io/Format" "NQUADS" "Lcom/example/bracegraph/bracegraph/io/Format;" (.ref fN)) (STr : Sta Z h0 "com/example/bracegraph/bracegraph/io/Format" "TRIG" "Lcom/example/bracegraph/bracegraph/io/Format;" (.ref fT)) (h1 : f = fN) : MetFree l (⟨"com/example/bracegraph/bracegraph/io/Format", "writes", "()Z"⟩ : MethodName) (head1 (Jvm.Cond.code (⟨"com/example/bracegraph/bracegraph/io/Format", "writes", "()Z"⟩ : MethodName) prog_5_method_9_code 1 (some .boolean) :: []) ({ frames := 0, cells := 0, slots := 0, locals := 0 } : Room)) (fun a U => a = #[(.ref f)] ∧ Z.Warmed39 U.vm ∧ U.heap = h0) (fun _ _ _ _ _ => True) (fun _ U o U' => ∃ v L, o = .returned v ∧ (v = some (.int 1) ∧ L = [] ∧ U'.heap = h0) ∧ FrameEnd U o U' L ({ frames := 0, cells := 0, slots := 0, locals := 0 } : Room).cells ({ frames := 0, cells := 0, slots := 0, locals := 0 } : Room).slots) := by
  refine MetFree.of_bodySF pn5 hisR ?_
  intro p e s m args below meth c s₁ Bd hml0 hP hK
  obtain ⟨rfl, hZ, hh⟩ := hP
  have hx := Bd.exec
  have hby := Bd.bytes
  have hown : s.vm.findClass "com/example/bracegraph/bracegraph/io/Format" = some m.cls := findClass_of_methodNamed Bd.named
  have X0 : Stand p l e ({ frames := 0, cells := 0, slots := 0, locals := 0 } : Room) s m #[(.ref f)] below meth c s₁ [] 0 0 := Stand.of_body Bd
  have e0 : s₁.heap = h0 := by rw [← hh, Bd.state]; rfl
  have pre0 : ∀ t, Steps p.tables e below (s₁.setTop (mkF m 0 #[.val (.ref f)] [])) t → Steps p.tables e below (s₁.setTop (entryFrame m #[(.ref f)] 1)) t := fun t k => castTop (by first | rfl | simp [entryFrame, mkF, argsToLocals, Value.category]) k
  obtain ⟨T1, X1, e1, st1⟩ := getS2 X0 hx hZ (a0 := a0) hown (host := "") (Or.inl (hw _ (List.mem_of_getElem? (i := 42) rfl))) Via.refl e0 SN (g := mkF m 1 #[.val (.ref f)] [.ref f]) rfl (hb hby d5_1)
  obtain ⟨fs, hr, hrun, hended, hW, hsame⟩ := X1.leave (v := some (.int 1)) (fun h => by rw [Bd.returns] at h; cases h)
  refine ⟨_, _, pre0 _ ?_, hrun, hended, _, _, rfl, ⟨rfl, rfl, e1⟩, ⟨_, rfl⟩, hW, hsame.mono (Nat.le_of_ble_eq_true rfl) (Nat.le_of_ble_eq_true rfl)⟩
  refine XS.aloadN X0.here hx rfl (hb hby d5_0) rfl rfl ?_
  refine st1 _ ?_
  refine XT.acmpYes X1.here hx rfl (pc0 := 4) rfl (hb hby d5_4) rfl rfl rfl (by simp [XT.acmp, h1]) (by decide) rfl ?_
  refine XS.iconst X1.here hx rfl (hb hby d5_14) ?_
  refine XS.goto X1.here hx rfl (pc0 := 15) rfl (hb hby d5_15) (by decide) rfl ?_
  exact retN X1 hx (t := .boolean) Bd.returns (by simp) (hb hby d5_19) hr
theorem wrB {l : Launch} {Z : State} {a0 : Array Value} (hw : ∀ d ∈ tables_1, d.before a0 Z = true) {h0 : Heap} {f fN fT : Addr} (SN : Sta Z h0 "com/example/bracegraph/bracegraph/io/Format" "NQUADS" "Lcom/example/bracegraph/bracegraph/io/Format;" (.ref fN)) (STr : Sta Z h0 "com/example/bracegraph/bracegraph/io/Format" "TRIG" "Lcom/example/bracegraph/bracegraph/io/Format;" (.ref fT)) (h1 : ¬ f = fN) (h2 : f = fT) : MetFree l (⟨"com/example/bracegraph/bracegraph/io/Format", "writes", "()Z"⟩ : MethodName) (head1 (Jvm.Cond.code (⟨"com/example/bracegraph/bracegraph/io/Format", "writes", "()Z"⟩ : MethodName) prog_5_method_9_code 1 (some .boolean) :: []) ({ frames := 0, cells := 0, slots := 0, locals := 0 } : Room)) (fun a U => a = #[(.ref f)] ∧ Z.Warmed39 U.vm ∧ U.heap = h0) (fun _ _ _ _ _ => True) (fun _ U o U' => ∃ v L, o = .returned v ∧ (v = some (.int 1) ∧ L = [] ∧ U'.heap = h0) ∧ FrameEnd U o U' L ({ frames := 0, cells := 0, slots := 0, locals := 0 } : Room).cells ({ frames := 0, cells := 0, slots := 0, locals := 0 } : Room).slots) := by
  refine MetFree.of_bodySF pn5 hisR ?_
  intro p e s m args below meth c s₁ Bd hml0 hP hK
  obtain ⟨rfl, hZ, hh⟩ := hP
  have hx := Bd.exec
  have hby := Bd.bytes
  have hown : s.vm.findClass "com/example/bracegraph/bracegraph/io/Format" = some m.cls := findClass_of_methodNamed Bd.named
  have X0 : Stand p l e ({ frames := 0, cells := 0, slots := 0, locals := 0 } : Room) s m #[(.ref f)] below meth c s₁ [] 0 0 := Stand.of_body Bd
  have e0 : s₁.heap = h0 := by rw [← hh, Bd.state]; rfl
  have pre0 : ∀ t, Steps p.tables e below (s₁.setTop (mkF m 0 #[.val (.ref f)] [])) t → Steps p.tables e below (s₁.setTop (entryFrame m #[(.ref f)] 1)) t := fun t k => castTop (by first | rfl | simp [entryFrame, mkF, argsToLocals, Value.category]) k
  obtain ⟨T1, X1, e1, st1⟩ := getS2 X0 hx hZ (a0 := a0) hown (host := "") (Or.inl (hw _ (List.mem_of_getElem? (i := 42) rfl))) Via.refl e0 SN (g := mkF m 1 #[.val (.ref f)] [.ref f]) rfl (hb hby d5_1)
  obtain ⟨T2, X2, e2, st2⟩ := getS2 X1 hx hZ (a0 := a0) hown (host := "") (Or.inl (hw _ (List.mem_of_getElem? (i := 46) rfl))) Via.refl e1 STr (g := mkF m 8 #[.val (.ref f)] [.ref f]) rfl (hb hby d5_8)
  obtain ⟨fs, hr, hrun, hended, hW, hsame⟩ := X2.leave (v := some (.int 1)) (fun h => by rw [Bd.returns] at h; cases h)
  refine ⟨_, _, pre0 _ ?_, hrun, hended, _, _, rfl, ⟨rfl, rfl, e2⟩, ⟨_, rfl⟩, hW, hsame.mono (Nat.le_of_ble_eq_true rfl) (Nat.le_of_ble_eq_true rfl)⟩
  refine XS.aloadN X0.here hx rfl (hb hby d5_0) rfl rfl ?_
  refine st1 _ ?_
  refine XT.acmpNo X1.here hx rfl (hb hby d5_4) rfl rfl rfl (by simp [XT.acmp, h1]) ?_
  refine XS.aloadN X1.here hx rfl (hb hby d5_7) rfl rfl ?_
  refine st2 _ ?_
  refine XT.acmpNo X2.here hx rfl (hb hby d5_11) rfl rfl rfl (by simp [XT.acmp, h2]) ?_
  refine XS.iconst X2.here hx rfl (hb hby d5_14) ?_
  refine XS.goto X2.here hx rfl (pc0 := 15) rfl (hb hby d5_15) (by decide) rfl ?_
  exact retN X2 hx (t := .boolean) Bd.returns (by simp) (hb hby d5_19) hr
theorem wrC {l : Launch} {Z : State} {a0 : Array Value} (hw : ∀ d ∈ tables_1, d.before a0 Z = true) {h0 : Heap} {f fN fT : Addr} (SN : Sta Z h0 "com/example/bracegraph/bracegraph/io/Format" "NQUADS" "Lcom/example/bracegraph/bracegraph/io/Format;" (.ref fN)) (STr : Sta Z h0 "com/example/bracegraph/bracegraph/io/Format" "TRIG" "Lcom/example/bracegraph/bracegraph/io/Format;" (.ref fT)) (h1 : ¬ f = fN) (h2 : ¬ f = fT) : MetFree l (⟨"com/example/bracegraph/bracegraph/io/Format", "writes", "()Z"⟩ : MethodName) (head1 (Jvm.Cond.code (⟨"com/example/bracegraph/bracegraph/io/Format", "writes", "()Z"⟩ : MethodName) prog_5_method_9_code 1 (some .boolean) :: []) ({ frames := 0, cells := 0, slots := 0, locals := 0 } : Room)) (fun a U => a = #[(.ref f)] ∧ Z.Warmed39 U.vm ∧ U.heap = h0) (fun _ _ _ _ _ => True) (fun _ U o U' => ∃ v L, o = .returned v ∧ (v = some (.int 0) ∧ L = [] ∧ U'.heap = h0) ∧ FrameEnd U o U' L ({ frames := 0, cells := 0, slots := 0, locals := 0 } : Room).cells ({ frames := 0, cells := 0, slots := 0, locals := 0 } : Room).slots) := by
  refine MetFree.of_bodySF pn5 hisR ?_
  intro p e s m args below meth c s₁ Bd hml0 hP hK
  obtain ⟨rfl, hZ, hh⟩ := hP
  have hx := Bd.exec
  have hby := Bd.bytes
  have hown : s.vm.findClass "com/example/bracegraph/bracegraph/io/Format" = some m.cls := findClass_of_methodNamed Bd.named
  have X0 : Stand p l e ({ frames := 0, cells := 0, slots := 0, locals := 0 } : Room) s m #[(.ref f)] below meth c s₁ [] 0 0 := Stand.of_body Bd
  have e0 : s₁.heap = h0 := by rw [← hh, Bd.state]; rfl
  have pre0 : ∀ t, Steps p.tables e below (s₁.setTop (mkF m 0 #[.val (.ref f)] [])) t → Steps p.tables e below (s₁.setTop (entryFrame m #[(.ref f)] 1)) t := fun t k => castTop (by first | rfl | simp [entryFrame, mkF, argsToLocals, Value.category]) k
  obtain ⟨T1, X1, e1, st1⟩ := getS2 X0 hx hZ (a0 := a0) hown (host := "") (Or.inl (hw _ (List.mem_of_getElem? (i := 42) rfl))) Via.refl e0 SN (g := mkF m 1 #[.val (.ref f)] [.ref f]) rfl (hb hby d5_1)
  obtain ⟨T2, X2, e2, st2⟩ := getS2 X1 hx hZ (a0 := a0) hown (host := "") (Or.inl (hw _ (List.mem_of_getElem? (i := 46) rfl))) Via.refl e1 STr (g := mkF m 8 #[.val (.ref f)] [.ref f]) rfl (hb hby d5_8)
  obtain ⟨fs, hr, hrun, hended, hW, hsame⟩ := X2.leave (v := some (.int 0)) (fun h => by rw [Bd.returns] at h; cases h)
  refine ⟨_, _, pre0 _ ?_, hrun, hended, _, _, rfl, ⟨rfl, rfl, e2⟩, ⟨_, rfl⟩, hW, hsame.mono (Nat.le_of_ble_eq_true rfl) (Nat.le_of_ble_eq_true rfl)⟩
  refine XS.aloadN X0.here hx rfl (hb hby d5_0) rfl rfl ?_
  refine st1 _ ?_
  refine XT.acmpNo X1.here hx rfl (hb hby d5_4) rfl rfl rfl (by simp [XT.acmp, h1]) ?_
  refine XS.aloadN X1.here hx rfl (hb hby d5_7) rfl rfl ?_
  refine st2 _ ?_
  refine XT.acmpYes X2.here hx rfl (pc0 := 11) rfl (hb hby d5_11) rfl rfl rfl (by simp [XT.acmp, h2]) (by decide) rfl ?_
  refine XS.iconst X2.here hx rfl (hb hby d5_18) ?_
  exact retN X2 hx (t := .boolean) Bd.returns (by simp) (hb hby d5_19) hr
theorem tail {l : Launch} {Z : State} {a0 : Array Value} (hw : ∀ d ∈ tables_1, d.before a0 Z = true) {p : Program} {e : Env} {s : State} {vm0 : Vm} {m : MethodId} {args : Array Value} {below : List Frame} {meth : Method} {c : Code} {T : State} {h : Heap} (w k b : Int32) (f xs : Addr) {cells slots k0 : Nat}
    (X : Stand p l e room_1 (s.setVm vm0) m args below meth c T [] cells slots) (hx : p.tables.exec = Jvm.exec) (hZ : Z.Warmed39 vm0) (hby : c.code = code) (hml : c.maxLocals = maxLocals) (hown : vm0.findClass "com/example/bracegraph/bracegraph/io/FormatWritesPinLaw" = some m.cls) (hrt : meth.sig.returnType = ret) (hlk : meth.locks = false) (eT : T.heap = h) (hS : s.Since vm0 k0) (hk : k0 ≤ h.size) (hc : cells ≤ 8) (hn : slots ≤ 2112)
    (EF : Exa Z h f "com/example/bracegraph/bracegraph/io/Format") (hwr : ∀ h0, h0 = h → MetFree l (⟨"com/example/bracegraph/bracegraph/io/Format", "writes", "()Z"⟩ : MethodName) (head1 (Jvm.Cond.code (⟨"com/example/bracegraph/bracegraph/io/Format", "writes", "()Z"⟩ : MethodName) prog_5_method_9_code 1 (some .boolean) :: []) ({ frames := 0, cells := 0, slots := 0, locals := 0 } : Room)) (fun a U => a = #[(.ref f)] ∧ Z.Warmed39 U.vm ∧ U.heap = h0) (fun _ _ _ _ _ => True) (fun _ U o U' => ∃ v L, o = .returned v ∧ (v = some (.int b) ∧ L = [] ∧ U'.heap = h0) ∧ FrameEnd U o U' L ({ frames := 0, cells := 0, slots := 0, locals := 0 } : Room).cells ({ frames := 0, cells := 0, slots := 0, locals := 0 } : Room).slots)) :
    ∃ s₂, Steps p.tables e below (T.setTop (mkF m 40 #[.val (.int w), .val (.int k), .val (.ref f), .val (.ref xs), .unset] [.int b])) s₂ ∧ s₂.status = .running ∧ Ended s₂ below (.returned (some (.int 1))) ∧ ReturnedEndW s (.returned (some (.int 1))) s₂ [] 8 2112 := by
  have hZ' : Z.Warmed39 (s.setVm vm0).vm := hZ
  have hown' : (s.setVm vm0).vm.findClass "com/example/bracegraph/bracegraph/io/FormatWritesPinLaw" = some m.cls := hown
  obtain ⟨cq1, kq1, qa1, qb1, qc1⟩ := isOf hZ' eT EF
  obtain ⟨_, _, ⟨T1, L1, k1, n1⟩, -, X1, ⟨Lc1, hQ1, l1, y1, z1⟩, st1⟩ := X.virtualBack hx (y := (⟨"com/example/bracegraph/bracegraph/io/Format", "writes", "()Z"⟩ : MethodName)) (z := (⟨"com/example/bracegraph/bracegraph/io/Format", "writes", "()Z"⟩ : MethodName)) hown' (mvT hZ' (hw _ (List.mem_of_getElem? (i := 37) rfl))) (mvT hZ' (hw _ (List.mem_of_getElem? (i := 38) rfl))) (notFace_of_selects (args := #[]) (mvT hZ' (hw _ (List.mem_of_getElem? (i := 40) rfl)))) (mvT hZ' (hw _ (List.mem_of_getElem? (i := 40) rfl))) (mvT hZ' (hw _ (List.mem_of_getElem? (i := 39) rfl))) (by decide) (backOf (W := 0) (Q := fun v hh L => v = some (.int b) ∧ L = [] ∧ hh = h) (hwr h rfl) hZ' (hw _ (List.mem_of_getElem? (i := 41) rfl)) (hw _ (List.mem_of_getElem? (i := 6) rfl)) (by decide) (by decide)) qa1 qc1 (g := mkF m 43 #[.val (.int w), .val (.int k), .val (.ref f), .val (.ref xs), .val (.int b)] [.ref f]) rfl (by rw [hml]; rfl) (Steps.refl _) (argsL := []) (rest := []) (lenOf pd5 rfl) rfl (by show 2 * 0 + _ ≤ _; exact Nat.le_of_eq rfl) (hb hby at_43) (fun _ _ => ⟨rfl, eT, (by show cells + 0 ≤ 8; omega), (by show slots + 0 ≤ 2112; omega)⟩)
  dsimp only [Pt.U, Pt.locs, Pt.cells, Pt.slots] at X1 l1 y1 z1 st1 hQ1
  subst l1 y1 z1
  obtain ⟨rfl, rfl, e1⟩ := hQ1
  have hk1 : k0 ≤ T1.heap.size := by rw [e1]; exact hk
  obtain ⟨fs, hr, hrun, hended, hR⟩ := X1.leaveW hS hk1 (v := some (.int 1)) (fun h => by rw [hrt] at h; cases h) hlk
  refine ⟨_, ?_, hrun, hended, ?_⟩
  · refine XS.istore X.here hx rfl (hb hby at_40) rfl (l' := #[.val (.int w), .val (.int k), .val (.ref f), .val (.ref xs), .val (.int b)]) rfl ?_
    refine XS.aloadN X.here hx rfl (hb hby at_42) rfl rfl ?_
    refine st1.trans ?_
    refine XS.iload X1.here hx rfl (hb hby at_46) rfl ?_
    refine XS.icmpNo X1.here hx rfl (hb hby at_48) rfl (XT.ii_ne_f rfl) ?_
    refine XS.iconst X1.here hx rfl (hb hby at_51) ?_
    refine XS.goto X1.here hx rfl (pc0 := 52) rfl (hb hby at_52) (by decide) rfl ?_
    exact retN X1 hx (t := .boolean) hrt (by simp) (hb hby at_56) hr
  · obtain ⟨q1, q2, q3, q4⟩ := hR
    exact ⟨q1, q2, q3, (q4.sift (L' := []) (fun y hy => by simp at hy)).mono (by omega) (by omega)⟩
theorem law_W {l : Launch} {Z : State} {a0 : Array Value} (hw : ∀ d ∈ tables_1, d.before a0 Z = true) (hh36 : Jvm.Lit.constHeld Z "com/example/bracegraph/bracegraph/io/FormatWritesPinLaw" 36) (hh44 : Jvm.Lit.constHeld Z "com/example/bracegraph/bracegraph/io/FormatWritesPinLaw" 44) (hcw : Jvm.Lit.compactW.before a0 Z = true) {z : Int32} (S0 : Sta Z Z.heap "java/lang/String" "COMPACT_STRINGS" "Z" (.int z)) (hz : ¬ z = 0)
    (w k b : Int32) (f xs t : Addr) (kb : ClassId) (cs : List Int32) (hwk : (w &&& 2147483647) % 5 = k) (hcs : ∀ c ∈ cs, ¬ c < 0 ∧ ¬ 255 < c) (hcl : cs.length ≤ 4000) (EF : Exa Z Z.heap f "com/example/bracegraph/bracegraph/io/Format") (FX : Fld Z Z.heap f "com/example/bracegraph/bracegraph/io/Format" "extension" "Ljava/lang/String;" (.ref xs)) (EX : Exa Z Z.heap xs "java/lang/String") (FV : Fld Z Z.heap xs "java/lang/String" "value" "[B" (.ref t)) (FC : Fld Z Z.heap xs "java/lang/String" "coder" "B" (.int 0)) (KA : Arv Z Z.heap t kb .byte (Int32.ofNat cs.length) ((cs.map StrChars.lo8).map Value.int) (.int 0))
    (hpick : ∀ h0, h0 = Z.heap → MetFree l (⟨"com/example/bracegraph/bracegraph/io/FormatWritesPinLaw", "pick", "(I)Lcom/example/bracegraph/bracegraph/io/Format;"⟩ : MethodName) (head1 (Jvm.Cond.code (⟨"com/example/bracegraph/bracegraph/io/FormatWritesPinLaw", "pick", "(I)Lcom/example/bracegraph/bracegraph/io/Format;"⟩ : MethodName) method_2_code 1 (some (.object "com/example/bracegraph/bracegraph/io/Format")) :: []) ({ frames := 0, cells := 0, slots := 0, locals := 0 } : Room)) (fun a U => a = #[(.int k)] ∧ Z.Warmed39 U.vm ∧ U.heap = h0) (fun _ _ _ _ _ => True) (fun _ U o U' => ∃ v L, o = .returned v ∧ (v = some (.ref f) ∧ L = [] ∧ U'.heap = h0) ∧ FrameEnd U o U' L ({ frames := 0, cells := 0, slots := 0, locals := 0 } : Room).cells ({ frames := 0, cells := 0, slots := 0, locals := 0 } : Room).slots)) (hwr : ∀ h0, Ext Z.heap h0 → MetFree l (⟨"com/example/bracegraph/bracegraph/io/Format", "writes", "()Z"⟩ : MethodName) (head1 (Jvm.Cond.code (⟨"com/example/bracegraph/bracegraph/io/Format", "writes", "()Z"⟩ : MethodName) prog_5_method_9_code 1 (some .boolean) :: []) ({ frames := 0, cells := 0, slots := 0, locals := 0 } : Room)) (fun a U => a = #[(.ref f)] ∧ Z.Warmed39 U.vm ∧ U.heap = h0) (fun _ _ _ _ _ => True) (fun _ U o U' => ∃ v L, o = .returned v ∧ (v = some (.int b) ∧ L = [] ∧ U'.heap = h0) ∧ FrameEnd U o U' L ({ frames := 0, cells := 0, slots := 0, locals := 0 } : Room).cells ({ frames := 0, cells := 0, slots := 0, locals := 0 } : Room).slots)) (hb1 : cs = [110, 113] → b = 1) (hb2 : cs = [116, 114, 105, 103] → b = 1) (hb3 : ¬ cs = [110, 113] → ¬ cs = [116, 114, 105, 103] → b = 0) :
    MetFree l x (head1 (Jvm.Cond.code x code maxLocals ret :: tables_1) room_1) (fun a U => a = #[.int w] ∧ U = Z) (fun _ _ _ _ _ => True) (fun _ U o U' => o = .returned (some (.int 1)) ∧ ReturnedEndW U o U' [] 8 2112) := by
  refine MetFree.of_bodySF pn0 hisR ?_
  intro p e s m args below meth c s₁ Bd hml0 hP hK
  obtain ⟨rfl, rfl⟩ := hP
  have hx := Bd.exec
  have hby := Bd.bytes
  have hml : c.maxLocals = maxLocals := hml0
  have hZ : s.Warmed39 s.vm := State.Warmed39.refl s
  have hown : s.vm.findClass "com/example/bracegraph/bracegraph/io/FormatWritesPinLaw" = some m.cls := findClass_of_methodNamed Bd.named
  have X0 : Stand p l e room_1 s m #[.int w] below meth c s₁ [] 0 0 := Stand.of_body Bd
  have e0 : s₁.heap = s.heap := by rw [Bd.state]; rfl
  have pre0 : ∀ t, Steps p.tables e below (s₁.setTop (mkF m 0 #[.val (.int w), .unset, .unset, .unset, .unset] [])) t → Steps p.tables e below (s₁.setTop (entryFrame m #[.int w] maxLocals)) t := fun t k => castTop (by first | rfl | simp [entryFrame, mkF, argsToLocals, Value.category, maxLocals]) k
  have wS : ∀ d ∈ Bundle.stringAtoms, d.before a0 s = true := fun d hd => hw d ((by decide +kernel : ∀ d ∈ Bundle.stringAtoms, d ∈ tables_1) d hd)
  have heq : ∀ d ∈ StrChars.Road.wordsEq, d.before a0 s = true := fun d hd => hw d ((by decide +kernel : ∀ d ∈ StrChars.Road.wordsEq, d ∈ tables_1) d hd)
  have hcd := StrChars.Road.codOf (cs := cs) rfl (fun c hc => (hcs c hc).2)
  have hbd : ∀ c ∈ cs, ¬ c < 0 ∧ ¬ (65535 : Int32) < c := fun c hc => ⟨(hcs c hc).1, fun q => (hcs c hc).2 (Int32.lt_trans (by decide) q)⟩
  obtain ⟨_, _, ⟨T1, L1, k1, n1⟩, -, X1, ⟨Lc1, hQ1, l1, y1, z1⟩, st1⟩ := Jvm.LawKit.callS X0 hx (y := (⟨"com/example/bracegraph/bracegraph/io/FormatWritesPinLaw", "pick", "(I)Lcom/example/bracegraph/bracegraph/io/Format;"⟩ : MethodName)) hown (mvT hZ (hw _ (List.mem_of_getElem? (i := 1) rfl))) (mvT hZ (hw _ (List.mem_of_getElem? (i := 2) rfl))) (mvT hZ (hw _ (List.mem_of_getElem? (i := 3) rfl))) (mvT hZ (hw _ (List.mem_of_getElem? (i := 4) rfl))) (by decide) (backOf (W := 0) (Q := fun v hh L => v = some (.ref f) ∧ L = [] ∧ hh = s₁.heap) (hpick s₁.heap e0) hZ (hw _ (List.mem_of_getElem? (i := 4) rfl)) (hw _ (List.mem_of_getElem? (i := 3) rfl)) (by decide) (by decide)) (g := mkF m 8 #[.val (.int w), .val (.int k), .unset, .unset, .unset] [.int k]) rfl (by rw [hml]; rfl) (argsL := [.int k]) (rest := []) (lenOf pd1 rfl) rfl (by show 2 * 0 + _ ≤ _; exact Nat.le_of_eq rfl) (hb hby at_8) (fun _ _ => ⟨rfl, rfl, (by decide : 0 + 0 ≤ _), (by decide : 0 + 0 ≤ _)⟩)
  dsimp only [Pt.U, Pt.locs, Pt.cells, Pt.slots] at X1 l1 y1 z1 st1 hQ1
  subst l1 y1 z1
  obtain ⟨rfl, rfl, e1'⟩ := hQ1
  have e1 : T1.heap = s.heap := e1'.trans e0
  obtain ⟨cq2, kq2, qa2, qb2, qc2⟩ := isOf hZ e1 EF
  obtain ⟨_, _, ⟨T2, L2, k2, n2⟩, -, X2, ⟨Lc2, hQ2, l2, y2, z2⟩, st2⟩ := X1.virtualBack hx (y := (⟨"com/example/bracegraph/bracegraph/io/Format", "extension", "()Ljava/lang/String;"⟩ : MethodName)) (z := (⟨"com/example/bracegraph/bracegraph/io/Format", "extension", "()Ljava/lang/String;"⟩ : MethodName)) hown (mvT hZ (hw _ (List.mem_of_getElem? (i := 8) rfl))) (mvT hZ (hw _ (List.mem_of_getElem? (i := 9) rfl))) (notFace_of_selects (args := #[]) (mvT hZ (hw _ (List.mem_of_getElem? (i := 11) rfl)))) (mvT hZ (hw _ (List.mem_of_getElem? (i := 11) rfl))) (mvT hZ (hw _ (List.mem_of_getElem? (i := 10) rfl))) (by decide) (backOf (W := 0) (Q := fun v hh L => v = some (.ref xs) ∧ L = [] ∧ hh = s.heap) (ext1 hw FX) hZ (hw _ (List.mem_of_getElem? (i := 12) rfl)) (hw _ (List.mem_of_getElem? (i := 6) rfl)) (by decide) (by decide)) qa2 qc2 (g := mkF m 13 #[.val (.int w), .val (.int k), .val (.ref f), .unset, .unset] [.ref f]) rfl (by rw [hml]; rfl) (Steps.refl _) (argsL := []) (rest := []) (lenOf pd2 rfl) rfl (by show 2 * 0 + _ ≤ _; exact Nat.le_of_eq rfl) (hb hby at_13) (fun _ _ => ⟨rfl, e1, (by decide : 0 + 0 + 0 ≤ _), (by decide : 0 + 0 + 0 ≤ _)⟩)
  dsimp only [Pt.U, Pt.locs, Pt.cells, Pt.slots] at X2 l2 y2 z2 st2 hQ2
  subst l2 y2 z2
  obtain ⟨rfl, rfl, e2⟩ := hQ2
  obtain ⟨a3, T3, h3, k3, b3, kk3, X3, eT3, E3, S3, hk3, hZ3, hown3, EA3, FC3, FV3, KA3, -, -, I3, st3⟩ := ldcSV (s := s) (vm0 := s.vm) (own := "com/example/bracegraph/bracegraph/io/FormatWritesPinLaw") (index := 36) (text := "nq") X2 hx hZ hown (hw _ (List.mem_of_getElem? (i := 15) rfl)) wS e2 ((State.WarmedH.refl s).since 0) (Nat.zero_le _) (Fr.nil _) (fun _ _ q => q) IB.start (by simp) hh36 hcw (vs := (([110, 113] : List Int32).map StrChars.lo8).map Value.int) (z := 2) ⟨by decide, by first | rfl | decide +kernel⟩ (by decide) (by decide) (g := mkF m 18 #[.val (.int w), .val (.int k), .val (.ref f), .val (.ref xs), .unset] [.ref xs]) rfl (hb hby at_18) (n := 8) (by decide) (by decide) (by decide) (by decide)
  obtain ⟨cq4, kq4, qa4, qb4, qc4⟩ := isOf hZ3 eT3 (EX.ext E3)
  obtain ⟨_, _, ⟨T4, L4, k4, n4⟩, -, X4, ⟨Lc4, hQ4, l4, y4, z4⟩, st4⟩ := X3.virtualBack hx (y := (⟨"java/lang/String", "equals", "(Ljava/lang/Object;)Z"⟩ : MethodName)) (z := (⟨"java/lang/String", "equals", "(Ljava/lang/Object;)Z"⟩ : MethodName)) hown3 (mvT hZ3 (hw _ (List.mem_of_getElem? (i := 23) rfl))) (mvT hZ3 (hw _ (List.mem_of_getElem? (i := 24) rfl))) (notFace_of_selects (args := #[]) (mvT hZ3 (hw _ (List.mem_of_getElem? (i := 26) rfl)))) (mvT hZ3 (hw _ (List.mem_of_getElem? (i := 26) rfl))) (mvT hZ3 (hw _ (List.mem_of_getElem? (i := 25) rfl))) (by decide) (StrChars.Road.eqW (W := 0) hZ3 heq (kI := 4) (hw _ (List.mem_of_getElem? (i := 17) rfl)) (EX.ext E3) (FV.ext E3) (FC.ext E3) (KA.ext E3) hcd hbd hcl EA3 FV3 FC3 KA3 (StrChars.Road.codOf (cs := [110, 113]) (n := 2) rfl (by decide)) (by decide) (by decide) (S0.ext E3) hz (by decide) (by decide)) qa4 qc4 (g := mkF m 20 #[.val (.int w), .val (.int k), .val (.ref f), .val (.ref xs), .unset] [.ref a3, .ref xs]) rfl (by rw [hml]; rfl) (Steps.refl _) (argsL := [.ref a3]) (rest := []) (lenOf pd3 rfl) rfl (by show 2 * 0 + _ ≤ _; exact Nat.le_of_eq rfl) (hb hby at_20) (fun _ _ => ⟨rfl, eT3, (by show 2 + 0 ≤ 8; decide), (by show 12 + 0 ≤ 2112; decide)⟩)
  dsimp only [Pt.U, Pt.locs, Pt.cells, Pt.slots] at X4 l4 y4 z4 st4 hQ4
  subst l4 y4 z4
  obtain ⟨hv4, rfl, e4⟩ := hQ4
  rcases hv4 with ⟨rfl, hcs1⟩ | ⟨rfl, hcs1⟩
  · obtain rfl := hb1 hcs1
    obtain ⟨s2, g1, g2, g3, g4⟩ := tail hw w k 1 f xs (vm0 := T3.vm) X4 hx hZ3 hby hml hown3 Bd.returns Bd.notSynchronized e4 S3 hk3 (by decide) (by decide) (EF.ext E3) (fun h0 q => hwr h0 (q ▸ E3))
    refine ⟨s2, _, pre0 _ ?_, g2, g3, rfl, g4⟩
    refine XS.iloadN X0.here hx rfl (hb hby at_0) rfl ?_
    refine X0.ldcInt hx hown (mvT hZ (hw _ (List.mem_of_getElem? (i := 0) rfl))) (g := mkF m 1 #[.val (.int w), .unset, .unset, .unset, .unset] [.int w]) rfl (hb hby at_1) _ ?_
    refine XS.iand X0.here hx rfl (hb hby at_3) rfl ?_
    refine XS.iconst X0.here hx rfl (hb hby at_4) ?_
    refine iremM X0 hx rfl (hb hby at_5) rfl (by decide) ?_
    refine XS.istoreN X0.here hx rfl (hb hby at_6) rfl (l' := #[.val (.int w), .val (.int k), .unset, .unset, .unset]) (by rw [← hwk]; rfl) ?_
    refine XS.iloadN X0.here hx rfl (hb hby at_7) rfl ?_
    refine st1 _ ?_
    refine XS.astoreN X1.here hx rfl (hb hby at_11) rfl rfl (l' := #[.val (.int w), .val (.int k), .val (.ref f), .unset, .unset]) rfl ?_
    refine XS.aloadN X1.here hx rfl (hb hby at_12) rfl rfl ?_
    refine st2.trans ?_
    refine XS.astoreN X2.here hx rfl (hb hby at_16) rfl rfl (l' := #[.val (.int w), .val (.int k), .val (.ref f), .val (.ref xs), .unset]) rfl ?_
    refine XS.aloadN X2.here hx rfl (hb hby at_17) rfl rfl ?_
    refine st3 _ ?_
    refine st4.trans ?_
    refine XS.ifYes X4.here hx rfl (pc0 := 23) rfl (hb hby at_23) rfl (XT.i0_ne_t (by decide)) (by decide) rfl ?_
    refine XS.iconst X4.here hx rfl (hb hby at_35) ?_
    refine XS.goto X4.here hx rfl (pc0 := 36) rfl (hb hby at_36) (by decide) rfl ?_
    exact g1
  · skip
    obtain ⟨a5, T5, h5, k5, b5, kk5, X5, eT5, E5, S5, hk5, hZ5, hown5, EA5, FC5, FV5, KA5, -, -, I5, st5⟩ := ldcSV (s := s) (vm0 := T3.vm) (own := "com/example/bracegraph/bracegraph/io/FormatWritesPinLaw") (index := 44) (text := "trig") X4 hx hZ3 hown3 (hw _ (List.mem_of_getElem? (i := 45) rfl)) wS e4 S3 hk3 (Fr.nil _) (fun _ _ q => q) I3 (by decide) hh44 hcw (vs := (([116, 114, 105, 103] : List Int32).map StrChars.lo8).map Value.int) (z := 4) ⟨by decide, by first | rfl | decide +kernel⟩ (by decide) (by decide) (g := mkF m 27 #[.val (.int w), .val (.int k), .val (.ref f), .val (.ref xs), .unset] [.ref xs]) rfl (hb hby at_27) (n := 16) (by decide) (by decide) (by decide) (by decide)
    have E5' : Ext s.heap h5 := ⟨Nat.le_trans E3.1 E5.1, fun a c q => E5.2 a c (E3.2 a c q)⟩
    obtain ⟨cq6, kq6, qa6, qb6, qc6⟩ := isOf hZ5 eT5 (EX.ext E5')
    obtain ⟨_, _, ⟨T6, L6, k6, n6⟩, -, X6, ⟨Lc6, hQ6, l6, y6, z6⟩, st6⟩ := X5.virtualBack hx (y := (⟨"java/lang/String", "equals", "(Ljava/lang/Object;)Z"⟩ : MethodName)) (z := (⟨"java/lang/String", "equals", "(Ljava/lang/Object;)Z"⟩ : MethodName)) hown5 (mvT hZ5 (hw _ (List.mem_of_getElem? (i := 23) rfl))) (mvT hZ5 (hw _ (List.mem_of_getElem? (i := 24) rfl))) (notFace_of_selects (args := #[]) (mvT hZ5 (hw _ (List.mem_of_getElem? (i := 26) rfl)))) (mvT hZ5 (hw _ (List.mem_of_getElem? (i := 26) rfl))) (mvT hZ5 (hw _ (List.mem_of_getElem? (i := 25) rfl))) (by decide) (StrChars.Road.eqW (W := 0) hZ5 heq (kI := 4) (hw _ (List.mem_of_getElem? (i := 17) rfl)) (EX.ext E5') (FV.ext E5') (FC.ext E5') (KA.ext E5') hcd hbd hcl EA5 FV5 FC5 KA5 (StrChars.Road.codOf (cs := [116, 114, 105, 103]) (n := 4) rfl (by decide)) (by decide) (by decide) (S0.ext E5') hz (by decide) (by decide)) qa6 qc6 (g := mkF m 29 #[.val (.int w), .val (.int k), .val (.ref f), .val (.ref xs), .unset] [.ref a5, .ref xs]) rfl (by rw [hml]; rfl) (Steps.refl _) (argsL := [.ref a5]) (rest := []) (lenOf pd3 rfl) rfl (by show 2 * 0 + _ ≤ _; exact Nat.le_of_eq rfl) (hb hby at_29) (fun _ _ => ⟨rfl, eT5, (by show 4 + 0 ≤ 8; decide), (by show 32 + 0 ≤ 2112; decide)⟩)
    dsimp only [Pt.U, Pt.locs, Pt.cells, Pt.slots] at X6 l6 y6 z6 st6 hQ6
    subst l6 y6 z6
    obtain ⟨hv6, rfl, e6⟩ := hQ6
    rcases hv6 with ⟨rfl, hcs2⟩ | ⟨rfl, hcs2⟩
    · obtain rfl := hb2 hcs2
      obtain ⟨s2, g1, g2, g3, g4⟩ := tail hw w k 1 f xs (vm0 := T5.vm) X6 hx hZ5 hby hml hown5 Bd.returns Bd.notSynchronized e6 S5 hk5 (by decide) (by decide) (EF.ext E5') (fun h0 q => hwr h0 (q ▸ E5'))
      refine ⟨s2, _, pre0 _ ?_, g2, g3, rfl, g4⟩
      refine XS.iloadN X0.here hx rfl (hb hby at_0) rfl ?_
      refine X0.ldcInt hx hown (mvT hZ (hw _ (List.mem_of_getElem? (i := 0) rfl))) (g := mkF m 1 #[.val (.int w), .unset, .unset, .unset, .unset] [.int w]) rfl (hb hby at_1) _ ?_
      refine XS.iand X0.here hx rfl (hb hby at_3) rfl ?_
      refine XS.iconst X0.here hx rfl (hb hby at_4) ?_
      refine iremM X0 hx rfl (hb hby at_5) rfl (by decide) ?_
      refine XS.istoreN X0.here hx rfl (hb hby at_6) rfl (l' := #[.val (.int w), .val (.int k), .unset, .unset, .unset]) (by rw [← hwk]; rfl) ?_
      refine XS.iloadN X0.here hx rfl (hb hby at_7) rfl ?_
      refine st1 _ ?_
      refine XS.astoreN X1.here hx rfl (hb hby at_11) rfl rfl (l' := #[.val (.int w), .val (.int k), .val (.ref f), .unset, .unset]) rfl ?_
      refine XS.aloadN X1.here hx rfl (hb hby at_12) rfl rfl ?_
      refine st2.trans ?_
      refine XS.astoreN X2.here hx rfl (hb hby at_16) rfl rfl (l' := #[.val (.int w), .val (.int k), .val (.ref f), .val (.ref xs), .unset]) rfl ?_
      refine XS.aloadN X2.here hx rfl (hb hby at_17) rfl rfl ?_
      refine st3 _ ?_
      refine st4.trans ?_
      refine XS.ifNo X4.here hx rfl (hb hby at_23) rfl (XT.i0_ne_f rfl) ?_
      refine XS.aloadN X4.here hx rfl (hb hby at_26) rfl rfl ?_
      refine st5 _ ?_
      refine st6.trans ?_
      refine XS.ifNo X6.here hx rfl (hb hby at_32) rfl (XT.i0_eq_f (by decide)) ?_
      refine XS.iconst X6.here hx rfl (hb hby at_35) ?_
      refine XS.goto X6.here hx rfl (pc0 := 36) rfl (hb hby at_36) (by decide) rfl ?_
      exact g1
    · obtain rfl := hb3 hcs1 hcs2
      obtain ⟨s2, g1, g2, g3, g4⟩ := tail hw w k 0 f xs (vm0 := T5.vm) X6 hx hZ5 hby hml hown5 Bd.returns Bd.notSynchronized e6 S5 hk5 (by decide) (by decide) (EF.ext E5') (fun h0 q => hwr h0 (q ▸ E5'))
      refine ⟨s2, _, pre0 _ ?_, g2, g3, rfl, g4⟩
      refine XS.iloadN X0.here hx rfl (hb hby at_0) rfl ?_
      refine X0.ldcInt hx hown (mvT hZ (hw _ (List.mem_of_getElem? (i := 0) rfl))) (g := mkF m 1 #[.val (.int w), .unset, .unset, .unset, .unset] [.int w]) rfl (hb hby at_1) _ ?_
      refine XS.iand X0.here hx rfl (hb hby at_3) rfl ?_
      refine XS.iconst X0.here hx rfl (hb hby at_4) ?_
      refine iremM X0 hx rfl (hb hby at_5) rfl (by decide) ?_
      refine XS.istoreN X0.here hx rfl (hb hby at_6) rfl (l' := #[.val (.int w), .val (.int k), .unset, .unset, .unset]) (by rw [← hwk]; rfl) ?_
      refine XS.iloadN X0.here hx rfl (hb hby at_7) rfl ?_
      refine st1 _ ?_
      refine XS.astoreN X1.here hx rfl (hb hby at_11) rfl rfl (l' := #[.val (.int w), .val (.int k), .val (.ref f), .unset, .unset]) rfl ?_
      refine XS.aloadN X1.here hx rfl (hb hby at_12) rfl rfl ?_
      refine st2.trans ?_
      refine XS.astoreN X2.here hx rfl (hb hby at_16) rfl rfl (l' := #[.val (.int w), .val (.int k), .val (.ref f), .val (.ref xs), .unset]) rfl ?_
      refine XS.aloadN X2.here hx rfl (hb hby at_17) rfl rfl ?_
      refine st3 _ ?_
      refine st4.trans ?_
      refine XS.ifNo X4.here hx rfl (hb hby at_23) rfl (XT.i0_ne_f rfl) ?_
      refine XS.aloadN X4.here hx rfl (hb hby at_26) rfl rfl ?_
      refine st5 _ ?_
      refine st6.trans ?_
      refine XS.ifYes X6.here hx rfl (pc0 := 32) rfl (hb hby at_32) rfl (XT.i0_eq_t rfl) (by decide) rfl ?_
      refine XS.iconst X6.here hx rfl (hb hby at_39) ?_
      exact g1
theorem eqI {s : State} {args : Array Value} {t : Term} {n : Int32} (h : (Jvm.Cond.eq t (.int n)).value args s none s [] = some true) : t.eval args s none [] s = some (.int n) := by
  obtain ⟨x, y, h1, h2, h3, h4⟩ := cmp_v (Or.inl h)
  obtain rfl : y = .int n := Option.some.inj (h2.symm.trans (Term.int_eval n))
  obtain ⟨z, rfl⟩ := h4
  rw [h1, gotT (Cond.eq_ints h1 h2) h]
theorem lenI {s : State} {args : Array Value} {t : Term} {a : Addr} {cl : Cell} {z : Int32} (ht : t.eval args s none [] s = some (.ref a)) (ha : s.arrayAt? a = some cl) (h : (Term.length t).eval args s none [] s = some (.int z)) : cl.slots.size < 2 ^ 31 ∧ cl.slots.size.toInt32 = z := by
  by_cases q : cl.slots.size < 2 ^ 31
  · rw [len_f ht ha q] at h; exact ⟨q, Value.int.inj (Option.some.inj h)⟩
  · simp [Term.eval, ht, ha, q] at h
set_option maxRecDepth 65536 in
set_option maxHeartbeats 40000000 in
theorem comes_1 {Post : Tables → Env → Array Value → State → Outcome → State → Prop} (hpost : ∀ tb e args s v u, (limb_1_1.after args s (.returned v) u = true ∧ limb_1_2.after args s (.returned v) u = true ∧ True) → ReturnedEndW s (.returned v) u (Jvm.fieldLocs frame_1_writes args s ++ Jvm.arrayLocs frame_1_arrays args s ++ Jvm.staticLocs frame_1_statics s) 8 2112 → Post tb e args s (.returned v) u) :
    ArmFor flags0 classFile x code maxLocals ret World_1 tables_1 room_1 Calls_1 rest_1 Pre_1 Post := by
  intro l hfl _ _ p e ha hc hk s m args below hf hA hF happ hP
  obtain ⟨hcalls, hrest, hpre⟩ := hP
  obtain ⟨-, -, -, hnamed, -, -, -, hat⟩ := (Spec.applies_iff hf).mp happ
  obtain ⟨hg, hn⟩ := and_e (Cond.before_iff.mp (show (Jvm.Cond.and given_1 narrow_1).before args s = true from hpre))
  obtain ⟨g0, gg1⟩ := and_e hg
  obtain ⟨w0, rfl⟩ : ∃ w0 : Value, args = #[w0] := by
    have hs : args.size = 1 := by simpa [Cond.value, given_1] using g0
    obtain ⟨L⟩ := args
    match L, hs with
    | [w0], _ => exact ⟨w0, rfl⟩
  have hw := fun d (hd : d ∈ tables_1) => atoms_spec (ws := Jvm.Cond.code x code maxLocals ret :: tables_1) hat d (List.mem_cons_of_mem _ hd)
  obtain ⟨i0, ei0⟩ := is_v gg1
  obtain rfl : w0 = (.int i0) := Option.some.inj ei0
  have hfit : Fit s := fun {y c} hc i hi => by
    obtain ⟨ha, rfl⟩ := Array.getElem?_eq_some_iff.mp hc
    have q := List.all_eq_true.mp ((Array.all_eq_true_iff_forall_mem.mp hF) _ (Array.getElem_mem ha)) i (List.mem_range.mpr hi)
    simpa [Array.getElem?_eq_getElem hi] using q
  obtain ⟨hsets, hown0⟩ := atoms_of _ (rest_1_c_eq ▸ (show rest_1_c.before _ s = true from hrest))
  have nz := not_v (Cond.before_iff.mp (hsets _ (List.mem_of_getElem? (i := 2) rfl)))
  obtain ⟨zc, ezc⟩ := is_v (Cond.before_iff.mp (hsets _ (List.mem_of_getElem? (i := 1) rfl)))
  have S0 : Sta s s.heap "java/lang/String" "COMPACT_STRINGS" "Z" (.int zc) := Sta.start ezc (Or.inl (hsets _ (List.mem_of_getElem? (i := 0) rfl)))
  have hz : ¬ (zc = (0 : Int32)) := gotF (Cond.eq_ints ezc (Term.int_eval (0))) nz
  have hcw : Jvm.Lit.compactW.before #[.int i0] s = true := hsets _ (List.mem_of_getElem? (i := 2) rfl)
  have hh36 : Jvm.Lit.constHeld s "com/example/bracegraph/bracegraph/io/FormatWritesPinLaw" 36 := hcalls.1 ("com/example/bracegraph/bracegraph/io/FormatWritesPinLaw", 36) (List.mem_of_getElem? (i := 0) rfl)
  have hh44 : Jvm.Lit.constHeld s "com/example/bracegraph/bracegraph/io/FormatWritesPinLaw" 44 := hcalls.1 ("com/example/bracegraph/bracegraph/io/FormatWritesPinLaw", 44) (List.mem_of_getElem? (i := 1) rfl)
  obtain ⟨n0, m1⟩ := and_e hn
  obtain ⟨n1, m2⟩ := and_e m1
  obtain ⟨n2, m3⟩ := and_e m2
  obtain ⟨n3, m4⟩ := and_e m3
  obtain ⟨n4, m5⟩ := and_e m4
  obtain ⟨n5, m6⟩ := and_e m5
  obtain ⟨n6, m7⟩ := and_e m6
  obtain ⟨n7, m8⟩ := and_e m7
  obtain ⟨n8, m9⟩ := and_e m8
  obtain ⟨n9, m10⟩ := and_e m9
  obtain ⟨n10, m11⟩ := and_e m10
  obtain ⟨n11, m12⟩ := and_e m11
  obtain ⟨n12, m13⟩ := and_e m12
  obtain ⟨n13, m14⟩ := and_e m13
  obtain ⟨n14, m15⟩ := and_e m14
  obtain ⟨n15, m16⟩ := and_e m15
  obtain ⟨n16, m17⟩ := and_e m16
  obtain ⟨n17, m18⟩ := and_e m17
  obtain ⟨n18, m19⟩ := and_e m18
  obtain ⟨n19, m20⟩ := and_e m19
  obtain ⟨n20, m21⟩ := and_e m20
  obtain ⟨n21, m22⟩ := and_e m21
  obtain ⟨n22, m23⟩ := and_e m22
  obtain ⟨n23, m24⟩ := and_e m23
  obtain ⟨n24, m25⟩ := and_e m24
  obtain ⟨n25, m26⟩ := and_e m25
  obtain ⟨n26, m27⟩ := and_e m26
  obtain ⟨n27, m28⟩ := and_e m27
  obtain ⟨n28, m29⟩ := and_e m28
  obtain ⟨n29, m30⟩ := and_e m29
  obtain ⟨n30, m31⟩ := and_e m30
  obtain ⟨n31, m32⟩ := and_e m31
  obtain ⟨n32, m33⟩ := and_e m32
  obtain ⟨n33, m34⟩ := and_e m33
  obtain ⟨n34, m35⟩ := and_e m34
  obtain ⟨n35, m36⟩ := and_e m35
  obtain ⟨n36, m37⟩ := and_e m36
  obtain ⟨n37, m38⟩ := and_e m37
  obtain ⟨n38, m39⟩ := and_e m38
  obtain ⟨n39, m40⟩ := and_e m39
  obtain ⟨n40, m41⟩ := and_e m40
  obtain ⟨n41, m42⟩ := and_e m41
  obtain ⟨fNQUADS, efNQUADS⟩ := exa_v n0
  have SNQUADS := Sta.start efNQUADS (Or.inr ⟨(hw _ (List.mem_of_getElem? (i := 6) rfl)), (hw _ (List.mem_of_getElem? (i := 7) rfl))⟩)
  have ENQUADS := Exa.start efNQUADS n0
  have ONQUADS := Fld.start ((fld_at efNQUADS).symm.trans (eqI n13))
  obtain ⟨xNQUADS, exNQUADS⟩ := exa_v n1
  have EXNQUADS := Exa.start exNQUADS n1
  have FXNQUADS := Fld.start ((fld_at efNQUADS).symm.trans exNQUADS)
  have FCNQUADS := Fld.start ((fld_at exNQUADS).symm.trans (eqI n2))
  obtain ⟨tNQUADS, etNQUADS⟩ := arr_v n3
  have FVNQUADS := Fld.start ((fld_at exNQUADS).symm.trans etNQUADS)
  obtain ⟨clNQUADS, ANQUADS⟩ := Arr.start etNQUADS n3
  have hlNQUADS := lenI etNQUADS (Arr.fin (Vm.Alike.refl _) ANQUADS) (eqI n4)
  have KNQUADS : Arv s s.heap tNQUADS clNQUADS.cls .byte (Int32.ofNat ([110, 113] : List Int32).length) ((([110, 113] : List Int32).map StrChars.lo8).map Value.int) (.int 0) := Arv.start hfit ANQUADS hlNQUADS.1 hlNQUADS.2 (by decide) (by decide) ⟨(elem_in (eqI n5) etNQUADS (Term.int_eval 0) ANQUADS.1).2, (elem_in (eqI n6) etNQUADS (Term.int_eval 1) ANQUADS.1).2, trivial⟩
  obtain ⟨fNTRIPLES, efNTRIPLES⟩ := exa_v n16
  have SNTRIPLES := Sta.start efNTRIPLES (Or.inr ⟨(hw _ (List.mem_of_getElem? (i := 6) rfl)), (hw _ (List.mem_of_getElem? (i := 49) rfl))⟩)
  have ENTRIPLES := Exa.start efNTRIPLES n16
  have ONTRIPLES := Fld.start ((fld_at efNTRIPLES).symm.trans (eqI n23))
  obtain ⟨xNTRIPLES, exNTRIPLES⟩ := exa_v n17
  have EXNTRIPLES := Exa.start exNTRIPLES n17
  have FXNTRIPLES := Fld.start ((fld_at efNTRIPLES).symm.trans exNTRIPLES)
  have FCNTRIPLES := Fld.start ((fld_at exNTRIPLES).symm.trans (eqI n18))
  obtain ⟨tNTRIPLES, etNTRIPLES⟩ := arr_v n19
  have FVNTRIPLES := Fld.start ((fld_at exNTRIPLES).symm.trans etNTRIPLES)
  obtain ⟨clNTRIPLES, ANTRIPLES⟩ := Arr.start etNTRIPLES n19
  have hlNTRIPLES := lenI etNTRIPLES (Arr.fin (Vm.Alike.refl _) ANTRIPLES) (eqI n20)
  have KNTRIPLES : Arv s s.heap tNTRIPLES clNTRIPLES.cls .byte (Int32.ofNat ([110, 116] : List Int32).length) ((([110, 116] : List Int32).map StrChars.lo8).map Value.int) (.int 0) := Arv.start hfit ANTRIPLES hlNTRIPLES.1 hlNTRIPLES.2 (by decide) (by decide) ⟨(elem_in (eqI n21) etNTRIPLES (Term.int_eval 0) ANTRIPLES.1).2, (elem_in (eqI n22) etNTRIPLES (Term.int_eval 1) ANTRIPLES.1).2, trivial⟩
  obtain ⟨fTRIG, efTRIG⟩ := exa_v n14
  have STRIG := Sta.start efTRIG (Or.inr ⟨(hw _ (List.mem_of_getElem? (i := 6) rfl)), (hw _ (List.mem_of_getElem? (i := 47) rfl))⟩)
  have ETRIG := Exa.start efTRIG n14
  have OTRIG := Fld.start ((fld_at efTRIG).symm.trans (eqI n15))
  obtain ⟨xTRIG, exTRIG⟩ := exa_v n32
  have EXTRIG := Exa.start exTRIG n32
  have FXTRIG := Fld.start ((fld_at efTRIG).symm.trans exTRIG)
  have FCTRIG := Fld.start ((fld_at exTRIG).symm.trans (eqI n33))
  obtain ⟨tTRIG, etTRIG⟩ := arr_v n34
  have FVTRIG := Fld.start ((fld_at exTRIG).symm.trans etTRIG)
  obtain ⟨clTRIG, ATRIG⟩ := Arr.start etTRIG n34
  have hlTRIG := lenI etTRIG (Arr.fin (Vm.Alike.refl _) ATRIG) (eqI n35)
  have KTRIG : Arv s s.heap tTRIG clTRIG.cls .byte (Int32.ofNat ([116, 114, 105, 103] : List Int32).length) ((([116, 114, 105, 103] : List Int32).map StrChars.lo8).map Value.int) (.int 0) := Arv.start hfit ATRIG hlTRIG.1 hlTRIG.2 (by decide) (by decide) ⟨(elem_in (eqI n36) etTRIG (Term.int_eval 0) ATRIG.1).2, (elem_in (eqI n37) etTRIG (Term.int_eval 1) ATRIG.1).2, (elem_in (eqI n38) etTRIG (Term.int_eval 2) ATRIG.1).2, (elem_in (eqI n39) etTRIG (Term.int_eval 3) ATRIG.1).2, trivial⟩
  obtain ⟨fTURTLE, efTURTLE⟩ := exa_v n7
  have STURTLE := Sta.start efTURTLE (Or.inr ⟨(hw _ (List.mem_of_getElem? (i := 6) rfl)), (hw _ (List.mem_of_getElem? (i := 44) rfl))⟩)
  have ETURTLE := Exa.start efTURTLE n7
  have OTURTLE := Fld.start ((fld_at efTURTLE).symm.trans (eqI n12))
  obtain ⟨xTURTLE, exTURTLE⟩ := exa_v n8
  have EXTURTLE := Exa.start exTURTLE n8
  have FXTURTLE := Fld.start ((fld_at efTURTLE).symm.trans exTURTLE)
  have FCTURTLE := Fld.start ((fld_at exTURTLE).symm.trans (eqI n9))
  obtain ⟨tTURTLE, etTURTLE⟩ := arr_v n10
  have FVTURTLE := Fld.start ((fld_at exTURTLE).symm.trans etTURTLE)
  obtain ⟨clTURTLE, ATURTLE⟩ := Arr.start etTURTLE n10
  have hlTURTLE := lenI etTURTLE (Arr.fin (Vm.Alike.refl _) ATURTLE) (eqI n11)
  have KTURTLE : Arv s s.heap tTURTLE clTURTLE.cls .byte (Int32.ofNat ([116, 116, 108] : List Int32).length) ((([116, 116, 108] : List Int32).map StrChars.lo8).map Value.int) (.int 0) := Arv.start hfit ATURTLE hlTURTLE.1 hlTURTLE.2 (by decide) (by decide) ⟨(elem_in (eqI n40) etTURTLE (Term.int_eval 0) ATURTLE.1).2, (elem_in (eqI n41) etTURTLE (Term.int_eval 1) ATURTLE.1).2, (elem_in (eqI m42) etTURTLE (Term.int_eval 2) ATURTLE.1).2, trivial⟩
  obtain ⟨fN3, efN3⟩ := exa_v n24
  have SN3 := Sta.start efN3 (Or.inr ⟨(hw _ (List.mem_of_getElem? (i := 6) rfl)), (hw _ (List.mem_of_getElem? (i := 51) rfl))⟩)
  have EN3 := Exa.start efN3 n24
  have ON3 := Fld.start ((fld_at efN3).symm.trans (eqI n31))
  obtain ⟨xN3, exN3⟩ := exa_v n25
  have EXN3 := Exa.start exN3 n25
  have FXN3 := Fld.start ((fld_at efN3).symm.trans exN3)
  have FCN3 := Fld.start ((fld_at exN3).symm.trans (eqI n26))
  obtain ⟨tN3, etN3⟩ := arr_v n27
  have FVN3 := Fld.start ((fld_at exN3).symm.trans etN3)
  obtain ⟨clN3, AN3⟩ := Arr.start etN3 n27
  have hlN3 := lenI etN3 (Arr.fin (Vm.Alike.refl _) AN3) (eqI n28)
  have KN3 : Arv s s.heap tN3 clN3.cls .byte (Int32.ofNat ([110, 51] : List Int32).length) ((([110, 51] : List Int32).map StrChars.lo8).map Value.int) (.int 0) := Arv.start hfit AN3 hlN3.1 hlN3.2 (by decide) (by decide) ⟨(elem_in (eqI n29) etN3 (Term.int_eval 0) AN3.1).2, (elem_in (eqI n30) etN3 (Term.int_eval 1) AN3.1).2, trivial⟩
  have key : ∃ n o, (∀ k, k < n → Within (stepsAlone p.tables e k s) below) ∧ (stepsAlone p.tables e n s).status = .running ∧ Ended (stepsAlone p.tables e n s) below o ∧ o = .returned (some (.int 1)) ∧ ReturnedEndW s o (stepsAlone p.tables e n s) [] 8 2112 := by
    obtain ⟨q, eq, hq⟩ : ∃ q : Nat, (i0 &&& 2147483647) % 5 = Int32.ofNat q ∧ q < 5 := by
      have e1 : u32 (i0 &&& 2147483647) = u32 i0 % 2147483648 := (u32_and i0 2147483647).trans (Nat.and_two_pow_sub_one_eq_mod _ 31)
      have e2 : (i0 &&& 2147483647).toInt = (u32 i0 % 2147483648 : Nat) := by rw [u32_toInt, e1, if_pos (by omega)]
      have e3 := (c_irem (i0 &&& 2147483647) 5 5 rfl).1 (by omega)
      exact ⟨u32 i0 % 2147483648 % 5, Int32.toInt_inj.mp (by rw [e3, e2, toInt_of (by omega)]; rfl), by omega⟩
    have hap := ((Spec.applies_iff_loose hf).mp happ).1
    have hq' : q = 0 ∨ q = 1 ∨ q = 2 ∨ q = 3 ∨ q = 4 := by omega
    rcases hq' with rfl | rfl | rfl | rfl | rfl
    · exact law_W hw hh36 hh44 hcw S0 hz i0 0 1 fNQUADS xNQUADS tNQUADS _ [110, 113] eq (by decide) (by decide) ENQUADS FXNQUADS EXNQUADS FVNQUADS FCNQUADS KNQUADS (fun h0 q => q ▸ pick0 hw SNQUADS) (fun h0 E => wrA hw (SNQUADS.ext E) (STRIG.ext E) rfl) (fun _ => rfl) (fun _ => rfl) (fun q r => by first | exact absurd rfl q | exact absurd rfl r) p e ha hc hk s m _ below hf hap ⟨rfl, rfl⟩ trivial
    · exact law_W hw hh36 hh44 hcw S0 hz i0 1 0 fNTRIPLES xNTRIPLES tNTRIPLES _ [110, 116] eq (by decide) (by decide) ENTRIPLES FXNTRIPLES EXNTRIPLES FVNTRIPLES FCNTRIPLES KNTRIPLES (fun h0 q => q ▸ pick1 hw SNTRIPLES) (fun h0 E => wrC hw (SNQUADS.ext E) (STRIG.ext E) (Fld.ne ONTRIPLES ONQUADS (by simp)) (Fld.ne ONTRIPLES OTRIG (by simp))) (fun q => absurd q (by decide)) (fun q => absurd q (by decide)) (fun _ _ => rfl) p e ha hc hk s m _ below hf hap ⟨rfl, rfl⟩ trivial
    · exact law_W hw hh36 hh44 hcw S0 hz i0 2 1 fTRIG xTRIG tTRIG _ [116, 114, 105, 103] eq (by decide) (by decide) ETRIG FXTRIG EXTRIG FVTRIG FCTRIG KTRIG (fun h0 q => q ▸ pick2 hw STRIG) (fun h0 E => wrB hw (SNQUADS.ext E) (STRIG.ext E) (Fld.ne OTRIG ONQUADS (by simp)) rfl) (fun _ => rfl) (fun _ => rfl) (fun q r => by first | exact absurd rfl q | exact absurd rfl r) p e ha hc hk s m _ below hf hap ⟨rfl, rfl⟩ trivial
    · exact law_W hw hh36 hh44 hcw S0 hz i0 3 0 fTURTLE xTURTLE tTURTLE _ [116, 116, 108] eq (by decide) (by decide) ETURTLE FXTURTLE EXTURTLE FVTURTLE FCTURTLE KTURTLE (fun h0 q => q ▸ pick3 hw STURTLE) (fun h0 E => wrC hw (SNQUADS.ext E) (STRIG.ext E) (Fld.ne OTURTLE ONQUADS (by simp)) (Fld.ne OTURTLE OTRIG (by simp))) (fun q => absurd q (by decide)) (fun q => absurd q (by decide)) (fun _ _ => rfl) p e ha hc hk s m _ below hf hap ⟨rfl, rfl⟩ trivial
    · exact law_W hw hh36 hh44 hcw S0 hz i0 4 0 fN3 xN3 tN3 _ [110, 51] eq (by decide) (by decide) EN3 FXN3 EXN3 FVN3 FCN3 KN3 (fun h0 q => q ▸ pick4 hw SN3) (fun h0 E => wrC hw (SNQUADS.ext E) (STRIG.ext E) (Fld.ne ON3 ONQUADS (by simp)) (Fld.ne ON3 OTRIG (by simp))) (fun q => absurd q (by decide)) (fun q => absurd q (by decide)) (fun _ _ => rfl) p e ha hc hk s m _ below hf hap ⟨rfl, rfl⟩ trivial
  obtain ⟨n, o, h1, h2, h3, rfl, hq⟩ := key
  refine ⟨n, _, h1, h2, h3, hpost _ _ _ _ _ _ ⟨Cond.after_iff.mpr rfl, Cond.after_iff.mpr (eq_i res_at (Term.int_eval (1)) rfl), trivial⟩ ⟨hq.1, hq.2.1, hq.2.2.1, hq.2.2.2.sift fun y hy => by simp at hy⟩⟩
theorem main_1_1 : Claimed_1_1 := comes_1 fun _ _ _ _ _ _ h hF => ⟨h.1, hF⟩
theorem main_1_2 : Claimed_1_2 := comes_1 fun _ _ _ _ _ _ h hF => ⟨h.2.1, hF⟩
end Jvm.Pilot.@@N@@
namespace Jvm.Pilot.@@N@@
open Jvm Jvm.ClassFile Sem Op Lib Jvm.Free Jvm.Stand Jvm.Pilot.@@N@@.Jvm.D
/-! MADE BY PROGRAM (witnessworld.py) out of the Statement's table words and the real class files: 18 classes; the members and pool entries that the words name. The judged class is class 1, her method 2. -/
namespace start1
open Jvm.ClassFile
def u (s : String) : CpInfo := .utf8 (stringToUtf16 s)
/-- a pool by its gaps: so many unusable entries, then the entry; so many at the end -/
def gap : Nat → List CpInfo → List CpInfo
  | 0, r => r
  | n + 1, r => .unusable :: gap n r
def poolList (es : List (Nat × CpInfo)) (last : Nat) : List CpInfo := es.foldr (fun e r => gap e.1 (e.2 :: r)) (gap last [])
def pool (es : List (Nat × CpInfo)) (last : Nat) : Array CpInfo := ⟨poolList es last⟩
def fileOf (pool : Array CpInfo) (this : Nat) (attrs : Array Attribute := #[]) (ms : Array MethodInfo := #[]) (fl : Nat := 33) (sup : Nat := 0) (ifs : Array Nat := #[]) (fds : Array FieldInfo := #[]) : ClassFile where
  minorVersion := 0
  majorVersion := 65
  constantPool := pool
  accessFlags := fl
  thisClass := this
  superClass := sup
  interfaces := ifs
  fields := fds
  methods := ms
  attributes := attrs
def plain (name : String) (sup : Option ClassId) : Class where
  name := name
  kind := .ordinary
  loader := none
  accessFlags := 33
  super := sup
  interfaces := #[]
  cf := none
  fields := #[]
  methods := #[]
  instanceTypes := #[]
  staticTypes := #[]
  resolved := #[]
  callSites := []
  init := .initialized
  statics := none
  mirror := none

def pool0 : Array CpInfo := pool [(5, u "<init>"), (0, u "()V"), (1, .class_ 10), (1, u "java/lang/Object")] 113

def k0m0 : Method := { name := "<init>", desc := "()V", sig := { parameters := [], returnType := none }, accessFlags := 1, code := none }
/-- java/lang/Object -/
def k0 : Class := { plain "java/lang/Object" none with
  accessFlags := 33
  interfaces := #[]
  cf := some (fileOf pool0 8 #[] #[{ accessFlags := 1, nameIndex := 5, descriptorIndex := 6, attributes := #[] }] 33 0 #[] #[])
  fields := #[]
  methods := #[k0m0]
  instanceTypes := #[]
  staticTypes := #[]
  resolved := Array.replicate 124 none
  statics := none }

def pool1 : Array CpInfo := pool [(2, .class_ 4), (1, u "java/lang/Object"), (0, u "<init>"), (0, u "()V"), (0, .fieldref 8 9), (0, .class_ 10), (0, .nameAndType 11 12), (0, u "com/example/bracegraph/bracegraph/io/Format"), (0, u "NQUADS"), (0, u "Lcom/example/bracegraph/bracegraph/io/Format;"), (0, .fieldref 8 14), (0, .nameAndType 15 12), (0, u "NTRIPLES"), (0, .fieldref 8 17), (0, .nameAndType 18 12), (0, u "TRIG"), (0, .fieldref 8 20), (0, .nameAndType 21 12), (0, u "TURTLE"), (0, .fieldref 8 23), (0, .nameAndType 24 12), (0, u "N3"), (0, .integer 2147483647), (0, .methodref 27 28), (0, .class_ 29), (0, .nameAndType 30 31), (0, u "com/example/bracegraph/bracegraph/io/FormatWritesPinLaw"), (0, u "pick"), (0, u "(I)Lcom/example/bracegraph/bracegraph/io/Format;"), (0, .methodref 8 33), (0, .nameAndType 34 35), (0, u "extension"), (0, u "()Ljava/lang/String;"), (0, .string 37), (0, u "nq"), (0, .methodref 39 40), (0, .class_ 41), (0, .nameAndType 42 43), (0, u "java/lang/String"), (0, u "equals"), (0, u "(Ljava/lang/Object;)Z"), (0, .string 45), (0, u "trig"), (0, .methodref 8 47), (0, .nameAndType 48 49), (0, u "writes"), (0, u "()Z"), (3, u "law"), (0, u "(I)Z")] 2

def k1m0 : Method := { name := "<init>", desc := "()V", sig := { parameters := [], returnType := none }, accessFlags := 2, code := none }
def k1c1 : Code := { maxStack := 2, maxLocals := 1, code := method_2_code, exceptionTable := #[], attributes := #[] }
def k1m1 : Method := { name := "pick", desc := "(I)Lcom/example/bracegraph/bracegraph/io/Format;", sig := { parameters := [.int], returnType := some (.object "com/example/bracegraph/bracegraph/io/Format") }, accessFlags := 10, code := some k1c1 }
def k1c2 : Code := { maxStack := 2, maxLocals := 5, code := code, exceptionTable := #[], attributes := #[] }
def k1m2 : Method := { name := "law", desc := "(I)Z", sig := { parameters := [.int], returnType := some .boolean }, accessFlags := 9, code := some k1c2 }
/-- com/example/bracegraph/bracegraph/io/FormatWritesPinLaw -/
def k1 : Class := { plain "com/example/bracegraph/bracegraph/io/FormatWritesPinLaw" (some 0) with
  accessFlags := 49
  interfaces := #[]
  cf := some (fileOf pool1 27 #[] #[{ accessFlags := 2, nameIndex := 5, descriptorIndex := 6, attributes := #[] }, { accessFlags := 10, nameIndex := 30, descriptorIndex := 31, attributes := #[] }, { accessFlags := 9, nameIndex := 53, descriptorIndex := 54, attributes := #[] }] 49 2 #[] #[])
  fields := #[]
  methods := #[k1m0, k1m1, k1m2]
  instanceTypes := #[]
  staticTypes := #[]
  resolved := Array.replicate 57 none
  statics := none }

def pool2 : Array CpInfo := pool [(1, .class_ 2), (0, u "java/lang/constant/Constable"), (0, .class_ 4), (0, u "java/lang/Object")] 6

/-- java/lang/constant/Constable -/
def k2 : Class := { plain "java/lang/constant/Constable" (some 0) with
  accessFlags := 1537
  interfaces := #[]
  cf := some (fileOf pool2 1 #[] #[] 1537 3 #[] #[])
  fields := #[]
  methods := #[]
  instanceTypes := #[]
  staticTypes := #[]
  resolved := Array.replicate 11 none
  statics := none }

def pool3 : Array CpInfo := pool [(1, .class_ 2), (0, u "java/lang/Comparable"), (0, .class_ 4), (0, u "java/lang/Object")] 7

/-- java/lang/Comparable -/
def k3 : Class := { plain "java/lang/Comparable" (some 0) with
  accessFlags := 1537
  interfaces := #[]
  cf := some (fileOf pool3 1 #[] #[] 1537 3 #[] #[])
  fields := #[]
  methods := #[]
  instanceTypes := #[]
  staticTypes := #[]
  resolved := Array.replicate 12 none
  statics := none }

def pool4 : Array CpInfo := pool [(1, .class_ 2), (0, u "java/io/Serializable"), (0, .class_ 4), (0, u "java/lang/Object")] 2

/-- java/io/Serializable -/
def k4 : Class := { plain "java/io/Serializable" (some 0) with
  accessFlags := 1537
  interfaces := #[]
  cf := some (fileOf pool4 1 #[] #[] 1537 3 #[] #[])
  fields := #[]
  methods := #[]
  instanceTypes := #[]
  staticTypes := #[]
  resolved := Array.replicate 7 none
  statics := none }

def pool5 : Array CpInfo := pool [(2, .class_ 4), (1, u "java/lang/Enum"), (0, u "name"), (0, u "Ljava/lang/String;"), (2, u "ordinal"), (0, u "I"), (1, .class_ 14), (1, u "java/lang/Object"), (4, u "hash"), (86, .class_ 108), (1, u "java/lang/Enum$EnumDesc"), (2, .class_ 112), (0, u "java/lang/constant/Constable"), (0, .class_ 114), (0, u "java/lang/Comparable"), (0, .class_ 116), (0, u "java/io/Serializable")] 87

/-- java/lang/Enum -/
def k5 : Class := { plain "java/lang/Enum" (some 0) with
  accessFlags := 1057
  interfaces := #[2, 3, 4]
  cf := some (fileOf pool5 2 #[.nestMembers #[106]] #[] 1057 12 #[111, 113, 115] #[{ accessFlags := 18, nameIndex := 5, descriptorIndex := 6, attributes := #[] }, { accessFlags := 18, nameIndex := 9, descriptorIndex := 10, attributes := #[] }, { accessFlags := 2, nameIndex := 19, descriptorIndex := 10, attributes := #[] }])
  fields := #[{ name := "name", type := (.object "java/lang/String"), accessFlags := 18, slot := 0, constantValue := 0 }, { name := "ordinal", type := .int, accessFlags := 18, slot := 1, constantValue := 0 }, { name := "hash", type := .int, accessFlags := 2, slot := 2, constantValue := 0 }]
  methods := #[]
  instanceTypes := #[(.object "java/lang/String"), .int, .int]
  staticTypes := #[]
  resolved := Array.replicate 204 none
  statics := none }

def pool6 : Array CpInfo := pool [(1, .class_ 2), (0, u "com/example/bracegraph/bracegraph/io/Format"), (0, .fieldref 1 4), (0, .nameAndType 5 6), (0, u "NQUADS"), (0, u "Lcom/example/bracegraph/bracegraph/io/Format;"), (2, u "NTRIPLES"), (0, .fieldref 1 11), (0, .nameAndType 12 6), (0, u "TRIG"), (2, u "TURTLE"), (2, u "N3"), (2, u "$VALUES"), (0, u "[Lcom/example/bracegraph/bracegraph/io/Format;"), (6, .class_ 31), (1, u "java/lang/Enum"), (6, .fieldref 1 39), (0, .nameAndType 40 41), (0, u "extension"), (0, u "Ljava/lang/String;"), (3, u "()Ljava/lang/String;"), (86, u "()Z"), (74, u "QUOTED"), (0, u "I"), (17, u "writes")] 27

def k6c0 : Code := { maxStack := 1, maxLocals := 1, code := prog_5_method_4_code, exceptionTable := #[], attributes := #[] }
def k6m0 : Method := { name := "extension", desc := "()Ljava/lang/String;", sig := { parameters := [], returnType := some (.object "java/lang/String") }, accessFlags := 1, code := some k6c0 }
def k6c1 : Code := { maxStack := 2, maxLocals := 1, code := prog_5_method_9_code, exceptionTable := #[], attributes := #[] }
def k6m1 : Method := { name := "writes", desc := "()Z", sig := { parameters := [], returnType := some .boolean }, accessFlags := 1, code := some k6c1 }
/-- com/example/bracegraph/bracegraph/io/Format -/
def k6 : Class := { plain "com/example/bracegraph/bracegraph/io/Format" (some 5) with
  accessFlags := 16433
  interfaces := #[]
  cf := some (fileOf pool6 1 #[] #[{ accessFlags := 1, nameIndex := 40, descriptorIndex := 45, attributes := #[] }, { accessFlags := 1, nameIndex := 226, descriptorIndex := 132, attributes := #[] }] 16433 29 #[] #[{ accessFlags := 16409, nameIndex := 5, descriptorIndex := 6, attributes := #[] }, { accessFlags := 16409, nameIndex := 9, descriptorIndex := 6, attributes := #[] }, { accessFlags := 16409, nameIndex := 12, descriptorIndex := 6, attributes := #[] }, { accessFlags := 16409, nameIndex := 15, descriptorIndex := 6, attributes := #[] }, { accessFlags := 16409, nameIndex := 18, descriptorIndex := 6, attributes := #[] }, { accessFlags := 26, nameIndex := 207, descriptorIndex := 208, attributes := #[] }, { accessFlags := 18, nameIndex := 40, descriptorIndex := 41, attributes := #[] }, { accessFlags := 4122, nameIndex := 21, descriptorIndex := 22, attributes := #[] }])
  fields := #[{ name := "NQUADS", type := (.object "com/example/bracegraph/bracegraph/io/Format"), accessFlags := 16409, slot := 0, constantValue := 0 }, { name := "NTRIPLES", type := (.object "com/example/bracegraph/bracegraph/io/Format"), accessFlags := 16409, slot := 1, constantValue := 0 }, { name := "TRIG", type := (.object "com/example/bracegraph/bracegraph/io/Format"), accessFlags := 16409, slot := 2, constantValue := 0 }, { name := "TURTLE", type := (.object "com/example/bracegraph/bracegraph/io/Format"), accessFlags := 16409, slot := 3, constantValue := 0 }, { name := "N3", type := (.object "com/example/bracegraph/bracegraph/io/Format"), accessFlags := 16409, slot := 4, constantValue := 0 }, { name := "QUOTED", type := .int, accessFlags := 26, slot := 5, constantValue := 0 }, { name := "extension", type := (.object "java/lang/String"), accessFlags := 18, slot := 3, constantValue := 0 }, { name := "$VALUES", type := (.array (.object "com/example/bracegraph/bracegraph/io/Format")), accessFlags := 4122, slot := 6, constantValue := 0 }]
  methods := #[k6m0, k6m1]
  instanceTypes := #[(.object "java/lang/String"), .int, .int, (.object "java/lang/String")]
  staticTypes := #[(.object "com/example/bracegraph/bracegraph/io/Format"), (.object "com/example/bracegraph/bracegraph/io/Format"), (.object "com/example/bracegraph/bracegraph/io/Format"), (.object "com/example/bracegraph/bracegraph/io/Format"), (.object "com/example/bracegraph/bracegraph/io/Format"), .int, (.array (.object "com/example/bracegraph/bracegraph/io/Format"))]
  resolved := Array.replicate 254 none
  statics := some 0 }

def pool7 : Array CpInfo := pool [(2, .class_ 4), (1, u "java/lang/CharSequence"), (42, .class_ 48), (0, u "java/lang/CharSequence$1CodePointIterator"), (10, .class_ 60), (0, u "java/lang/CharSequence$1CharIterator"), (5, .class_ 67), (0, u "java/lang/Object")] 63

/-- java/lang/CharSequence -/
def k7 : Class := { plain "java/lang/CharSequence" (some 0) with
  accessFlags := 1537
  interfaces := #[]
  cf := some (fileOf pool7 2 #[.nestMembers #[47, 59]] #[] 1537 66 #[] #[])
  fields := #[]
  methods := #[]
  instanceTypes := #[]
  staticTypes := #[]
  resolved := Array.replicate 131 none
  statics := none }

def pool8 : Array CpInfo := pool [(1, .class_ 2), (0, u "java/lang/constant/ConstantDesc"), (0, .class_ 4), (0, u "java/lang/Object")] 32

/-- java/lang/constant/ConstantDesc -/
def k8 : Class := { plain "java/lang/constant/ConstantDesc" (some 0) with
  accessFlags := 1537
  interfaces := #[]
  cf := some (fileOf pool8 1 #[] #[] 1537 3 #[] #[])
  fields := #[]
  methods := #[]
  instanceTypes := #[]
  staticTypes := #[]
  resolved := Array.replicate 37 none
  statics := none }

def pool9 : Array CpInfo := pool [(2, .class_ 4), (1, u "java/lang/Object"), (0, u "<init>"), (0, u "()V"), (2, .fieldref 10 11), (0, .class_ 12), (0, .nameAndType 13 14), (0, u "java/lang/String"), (0, u "value"), (0, u "[B"), (0, .fieldref 10 16), (0, .nameAndType 17 18), (0, u "coder"), (0, u "B"), (2, u "hash"), (0, u "I"), (2, u "hashIsZero"), (0, u "Z"), (11, .fieldref 10 39), (0, .nameAndType 40 26), (0, u "COMPACT_STRINGS"), (66, .class_ 109), (1, u "java/lang/StringLatin1"), (431, .methodref 107 542), (0, .nameAndType 543 544), (0, u "equals"), (0, u "([B[B)Z"), (28, u "(Ljava/lang/Object;)Z"), (1, .class_ 576), (0, u "java/lang/CharSequence"), (22, u "CASE_INSENSITIVE_ORDER"), (0, u "Ljava/util/Comparator;"), (500, u "serialPersistentFields"), (0, u "[Ljava/io/ObjectStreamField;"), (0, .class_ 1104), (0, u "java/lang/String$CaseInsensitiveComparator"), (1, .class_ 1107), (0, u "java/io/Serializable"), (0, .class_ 1109), (0, u "java/lang/Comparable"), (0, .class_ 1111), (0, u "java/lang/constant/Constable"), (0, .class_ 1113), (0, u "java/lang/constant/ConstantDesc"), (2, u "serialVersionUID"), (0, u "J"), (3, u "REPL"), (0, u "C"), (2, u "LATIN1"), (1, u "UTF16")] 323

def k9m0 : Method := { name := "<init>", desc := "()V", sig := { parameters := [], returnType := none }, accessFlags := 1, code := none }
def k9c1 : Code := { maxStack := 2, maxLocals := 3, code := jdk_42_method_66_code, exceptionTable := #[], attributes := #[] }
def k9m1 : Method := { name := "equals", desc := "(Ljava/lang/Object;)Z", sig := { parameters := [(.object "java/lang/Object")], returnType := some .boolean }, accessFlags := 1, code := some k9c1 }
/-- java/lang/String -/
def k9 : Class := { plain "java/lang/String" (some 0) with
  accessFlags := 49
  interfaces := #[4, 3, 7, 2, 8]
  cf := some (fileOf pool9 10 #[.nestMembers #[1103]] #[{ accessFlags := 1, nameIndex := 5, descriptorIndex := 6, attributes := #[] }, { accessFlags := 1, nameIndex := 543, descriptorIndex := 573, attributes := #[] }] 49 2 #[1106, 1108, 575, 1110, 1112] #[{ accessFlags := 18, nameIndex := 13, descriptorIndex := 14, attributes := #[] }, { accessFlags := 18, nameIndex := 17, descriptorIndex := 18, attributes := #[] }, { accessFlags := 2, nameIndex := 21, descriptorIndex := 22, attributes := #[] }, { accessFlags := 2, nameIndex := 25, descriptorIndex := 26, attributes := #[] }, { accessFlags := 26, nameIndex := 1116, descriptorIndex := 1117, attributes := #[] }, { accessFlags := 24, nameIndex := 40, descriptorIndex := 26, attributes := #[] }, { accessFlags := 26, nameIndex := 1101, descriptorIndex := 1102, attributes := #[] }, { accessFlags := 26, nameIndex := 1121, descriptorIndex := 1122, attributes := #[] }, { accessFlags := 25, nameIndex := 599, descriptorIndex := 600, attributes := #[] }, { accessFlags := 24, nameIndex := 1125, descriptorIndex := 18, attributes := #[] }, { accessFlags := 24, nameIndex := 1127, descriptorIndex := 18, attributes := #[] }])
  fields := #[{ name := "value", type := (.array .byte), accessFlags := 18, slot := 0, constantValue := 0 }, { name := "coder", type := .byte, accessFlags := 18, slot := 1, constantValue := 0 }, { name := "hash", type := .int, accessFlags := 2, slot := 2, constantValue := 0 }, { name := "hashIsZero", type := .boolean, accessFlags := 2, slot := 3, constantValue := 0 }, { name := "serialVersionUID", type := .long, accessFlags := 26, slot := 0, constantValue := 0 }, { name := "COMPACT_STRINGS", type := .boolean, accessFlags := 24, slot := 1, constantValue := 0 }, { name := "serialPersistentFields", type := (.array (.object "java/io/ObjectStreamField")), accessFlags := 26, slot := 2, constantValue := 0 }, { name := "REPL", type := .char, accessFlags := 26, slot := 3, constantValue := 0 }, { name := "CASE_INSENSITIVE_ORDER", type := (.object "java/util/Comparator"), accessFlags := 25, slot := 4, constantValue := 0 }, { name := "LATIN1", type := .byte, accessFlags := 24, slot := 5, constantValue := 0 }, { name := "UTF16", type := .byte, accessFlags := 24, slot := 6, constantValue := 0 }]
  methods := #[k9m0, k9m1]
  instanceTypes := #[(.array .byte), .byte, .int, .boolean]
  staticTypes := #[.long, .boolean, (.array (.object "java/io/ObjectStreamField")), .char, (.object "java/util/Comparator"), .byte, .byte]
  resolved := Array.replicate 1451 none
  statics := some 1 }

def pool10 : Array CpInfo := pool [(4, .class_ 6), (1, u "java/lang/Object"), (0, u "<init>"), (0, u "()V"), (5, .class_ 16), (1, u "java/lang/StringLatin1"), (104, u "$assertionsDisabled"), (0, u "Z"), (98, .class_ 223), (1, u "java/lang/StringLatin1$LinesSpliterator"), (57, u "equals"), (0, u "([B[B)Z"), (107, .class_ 391), (0, u "java/lang/StringLatin1$CharsSpliterator")] 3

def k10m0 : Method := { name := "<init>", desc := "()V", sig := { parameters := [], returnType := none }, accessFlags := 0, code := none }
def k10c1 : Code := { maxStack := 3, maxLocals := 3, code := jdk_43_method_13_code, exceptionTable := #[], attributes := #[] }
def k10m1 : Method := { name := "equals", desc := "([B[B)Z", sig := { parameters := [(.array .byte), (.array .byte)], returnType := some .boolean }, accessFlags := 9, code := some k10c1 }
/-- java/lang/StringLatin1 -/
def k10 : Class := { plain "java/lang/StringLatin1" (some 0) with
  accessFlags := 48
  interfaces := #[]
  cf := some (fileOf pool10 14 #[.nestMembers #[390, 221]] #[{ accessFlags := 0, nameIndex := 7, descriptorIndex := 8, attributes := #[] }, { accessFlags := 9, nameIndex := 281, descriptorIndex := 282, attributes := #[] }] 48 4 #[] #[{ accessFlags := 4120, nameIndex := 121, descriptorIndex := 122, attributes := #[] }])
  fields := #[{ name := "$assertionsDisabled", type := .boolean, accessFlags := 4120, slot := 0, constantValue := 0 }]
  methods := #[k10m0, k10m1]
  instanceTypes := #[]
  staticTypes := #[.boolean]
  resolved := Array.replicate 395 none
  statics := none }

def pool11 : Array CpInfo := pool [(2, .class_ 4), (1, u "java/lang/Object"), (0, u "<init>"), (0, u "()V"), (17, .class_ 26), (1, u "jdk/internal/util/Preconditions"), (28, .class_ 56), (0, u "jdk/internal/util/Preconditions$4"), (57, .class_ 115), (0, u "jdk/internal/util/Preconditions$1"), (7, u "SIOOBE_FORMATTER"), (0, u "Ljava/util/function/BiFunction;"), (0, .class_ 126), (0, u "jdk/internal/util/Preconditions$2"), (3, u "AIOOBE_FORMATTER"), (0, .class_ 132), (0, u "jdk/internal/util/Preconditions$3"), (3, u "IOOBE_FORMATTER")] 57

def k11m0 : Method := { name := "<init>", desc := "()V", sig := { parameters := [], returnType := none }, accessFlags := 1, code := none }
/-- jdk/internal/util/Preconditions -/
def k11 : Class := { plain "jdk/internal/util/Preconditions" (some 0) with
  accessFlags := 33
  interfaces := #[]
  cf := some (fileOf pool11 24 #[.nestMembers #[55, 131, 125, 114]] #[{ accessFlags := 1, nameIndex := 5, descriptorIndex := 6, attributes := #[] }] 33 2 #[] #[{ accessFlags := 25, nameIndex := 123, descriptorIndex := 124, attributes := #[] }, { accessFlags := 25, nameIndex := 130, descriptorIndex := 124, attributes := #[] }, { accessFlags := 25, nameIndex := 136, descriptorIndex := 124, attributes := #[] }])
  fields := #[{ name := "SIOOBE_FORMATTER", type := (.object "java/util/function/BiFunction"), accessFlags := 25, slot := 0, constantValue := 0 }, { name := "AIOOBE_FORMATTER", type := (.object "java/util/function/BiFunction"), accessFlags := 25, slot := 1, constantValue := 0 }, { name := "IOOBE_FORMATTER", type := (.object "java/util/function/BiFunction"), accessFlags := 25, slot := 2, constantValue := 0 }]
  methods := #[k11m0]
  instanceTypes := #[]
  staticTypes := #[(.object "java/util/function/BiFunction"), (.object "java/util/function/BiFunction"), (.object "java/util/function/BiFunction")]
  resolved := Array.replicate 194 none
  statics := some 2 }

def pool12 : Array CpInfo := pool [(9, u "<init>"), (6, .class_ 18), (1, u "java/lang/Object"), (0, u "()V"), (1, .class_ 23), (1, u "jdk/internal/util/ArraysSupport"), (0, u "LOG2_ARRAY_LONG_INDEX_SCALE"), (0, u "I"), (2, u "U"), (0, u "Ljdk/internal/misc/Unsafe;"), (8, u "BIG_ENDIAN"), (0, u "Z"), (8, u "LOG2_BYTE_BIT_SIZE"), (4, u "LOG2_ARRAY_INT_INDEX_SCALE"), (54, u "JLA"), (0, u "Ljdk/internal/access/JavaLangAccess;"), (11, u "LOG2_ARRAY_BOOLEAN_INDEX_SCALE"), (9, u "LOG2_ARRAY_BYTE_INDEX_SCALE"), (5, u "LOG2_ARRAY_CHAR_INDEX_SCALE"), (5, u "LOG2_ARRAY_SHORT_INDEX_SCALE"), (18, u "LOG2_ARRAY_FLOAT_INDEX_SCALE"), (24, u "LOG2_ARRAY_DOUBLE_INDEX_SCALE"), (89, u "T_BOOLEAN"), (2, u "T_CHAR"), (1, u "T_FLOAT"), (1, u "T_DOUBLE"), (1, u "T_BYTE"), (1, u "T_SHORT"), (1, u "T_INT"), (1, u "T_LONG"), (1, u "SOFT_MAX_ARRAY_LENGTH")] 83

def k12m0 : Method := { name := "<init>", desc := "()V", sig := { parameters := [], returnType := none }, accessFlags := 2, code := none }
/-- jdk/internal/util/ArraysSupport -/
def k12 : Class := { plain "jdk/internal/util/ArraysSupport" (some 0) with
  accessFlags := 33
  interfaces := #[]
  cf := some (fileOf pool12 21 #[] #[{ accessFlags := 2, nameIndex := 9, descriptorIndex := 19, attributes := #[] }] 33 16 #[] #[{ accessFlags := 24, nameIndex := 28, descriptorIndex := 29, attributes := #[] }, { accessFlags := 26, nameIndex := 38, descriptorIndex := 39, attributes := #[] }, { accessFlags := 25, nameIndex := 121, descriptorIndex := 25, attributes := #[] }, { accessFlags := 25, nameIndex := 131, descriptorIndex := 25, attributes := #[] }, { accessFlags := 25, nameIndex := 137, descriptorIndex := 25, attributes := #[] }, { accessFlags := 25, nameIndex := 143, descriptorIndex := 25, attributes := #[] }, { accessFlags := 25, nameIndex := 53, descriptorIndex := 25, attributes := #[] }, { accessFlags := 25, nameIndex := 24, descriptorIndex := 25, attributes := #[] }, { accessFlags := 25, nameIndex := 162, descriptorIndex := 25, attributes := #[] }, { accessFlags := 25, nameIndex := 187, descriptorIndex := 25, attributes := #[] }, { accessFlags := 26, nameIndex := 48, descriptorIndex := 25, attributes := #[] }, { accessFlags := 25, nameIndex := 277, descriptorIndex := 25, attributes := #[] }, { accessFlags := 25, nameIndex := 280, descriptorIndex := 25, attributes := #[] }, { accessFlags := 25, nameIndex := 282, descriptorIndex := 25, attributes := #[] }, { accessFlags := 25, nameIndex := 284, descriptorIndex := 25, attributes := #[] }, { accessFlags := 25, nameIndex := 286, descriptorIndex := 25, attributes := #[] }, { accessFlags := 25, nameIndex := 288, descriptorIndex := 25, attributes := #[] }, { accessFlags := 25, nameIndex := 290, descriptorIndex := 25, attributes := #[] }, { accessFlags := 25, nameIndex := 292, descriptorIndex := 25, attributes := #[] }, { accessFlags := 26, nameIndex := 108, descriptorIndex := 109, attributes := #[] }, { accessFlags := 25, nameIndex := 294, descriptorIndex := 25, attributes := #[] }])
  fields := #[{ name := "U", type := (.object "jdk/internal/misc/Unsafe"), accessFlags := 24, slot := 0, constantValue := 0 }, { name := "BIG_ENDIAN", type := .boolean, accessFlags := 26, slot := 1, constantValue := 0 }, { name := "LOG2_ARRAY_BOOLEAN_INDEX_SCALE", type := .int, accessFlags := 25, slot := 2, constantValue := 0 }, { name := "LOG2_ARRAY_BYTE_INDEX_SCALE", type := .int, accessFlags := 25, slot := 3, constantValue := 0 }, { name := "LOG2_ARRAY_CHAR_INDEX_SCALE", type := .int, accessFlags := 25, slot := 4, constantValue := 0 }, { name := "LOG2_ARRAY_SHORT_INDEX_SCALE", type := .int, accessFlags := 25, slot := 5, constantValue := 0 }, { name := "LOG2_ARRAY_INT_INDEX_SCALE", type := .int, accessFlags := 25, slot := 6, constantValue := 0 }, { name := "LOG2_ARRAY_LONG_INDEX_SCALE", type := .int, accessFlags := 25, slot := 7, constantValue := 0 }, { name := "LOG2_ARRAY_FLOAT_INDEX_SCALE", type := .int, accessFlags := 25, slot := 8, constantValue := 0 }, { name := "LOG2_ARRAY_DOUBLE_INDEX_SCALE", type := .int, accessFlags := 25, slot := 9, constantValue := 0 }, { name := "LOG2_BYTE_BIT_SIZE", type := .int, accessFlags := 26, slot := 10, constantValue := 0 }, { name := "T_BOOLEAN", type := .int, accessFlags := 25, slot := 11, constantValue := 0 }, { name := "T_CHAR", type := .int, accessFlags := 25, slot := 12, constantValue := 0 }, { name := "T_FLOAT", type := .int, accessFlags := 25, slot := 13, constantValue := 0 }, { name := "T_DOUBLE", type := .int, accessFlags := 25, slot := 14, constantValue := 0 }, { name := "T_BYTE", type := .int, accessFlags := 25, slot := 15, constantValue := 0 }, { name := "T_SHORT", type := .int, accessFlags := 25, slot := 16, constantValue := 0 }, { name := "T_INT", type := .int, accessFlags := 25, slot := 17, constantValue := 0 }, { name := "T_LONG", type := .int, accessFlags := 25, slot := 18, constantValue := 0 }, { name := "JLA", type := (.object "jdk/internal/access/JavaLangAccess"), accessFlags := 26, slot := 19, constantValue := 0 }, { name := "SOFT_MAX_ARRAY_LENGTH", type := .int, accessFlags := 25, slot := 20, constantValue := 0 }]
  methods := #[k12m0]
  instanceTypes := #[]
  staticTypes := #[(.object "jdk/internal/misc/Unsafe"), .boolean, .int, .int, .int, .int, .int, .int, .int, .int, .int, .int, .int, .int, .int, .int, .int, .int, .int, (.object "jdk/internal/access/JavaLangAccess"), .int]
  resolved := Array.replicate 378 none
  statics := none }

def pool13 : Array CpInfo := pool [(1, u "java/lang/Cloneable"), (0, .class_ 1), (0, u "java/lang/Object"), (0, .class_ 3)] 3

/-- java/lang/Cloneable -/
def k13 : Class := { plain "java/lang/Cloneable" (some 0) with
  accessFlags := 1537
  interfaces := #[]
  cf := some (fileOf pool13 2 #[] #[] 1537 4 #[] #[])
  fields := #[]
  methods := #[]
  instanceTypes := #[]
  staticTypes := #[]
  resolved := Array.replicate 8 none
  statics := none }

/-- the primitive byte -/
def k14 : Class := { plain "byte" none with kind := .primitive 'B', accessFlags := 0x411 }
/-- [B -/
def k15 : Class := { plain "[B" (some 0) with kind := .array 14 .byte, interfaces := #[13, 4], accessFlags := 1041 }

/-- the primitive int -/
def k16 : Class := { plain "int" none with kind := .primitive 'I', accessFlags := 0x411 }
/-- [I -/
def k17 : Class := { plain "[I" (some 0) with kind := .array 16 .int, interfaces := #[13, 4], accessFlags := 1041 }

def heap : Heap := #[{ cls := 6, slots := #[.ref 13, .ref 14, .ref 15, .ref 16, .ref 17, .int 0, .null], vm := .statics 6 },
  { cls := 9, slots := #[.long 0, .int 1, .null, .int 0, .null, .int 0, .int 0], vm := .statics 9 },
  { cls := 11, slots := #[.null, .null, .null], vm := .statics 11 },
  { cls := 15, slots := #[.int 110, .int 113], vm := .none },
  { cls := 15, slots := #[.int 110, .int 116], vm := .none },
  { cls := 15, slots := #[.int 116, .int 114, .int 105, .int 103], vm := .none },
  { cls := 15, slots := #[.int 116, .int 116, .int 108], vm := .none },
  { cls := 15, slots := #[.int 110, .int 51], vm := .none },
  { cls := 9, slots := #[.ref 3, .int 0, .int 0, .int 0], vm := .none },
  { cls := 9, slots := #[.ref 4, .int 0, .int 0, .int 0], vm := .none },
  { cls := 9, slots := #[.ref 5, .int 0, .int 0, .int 0], vm := .none },
  { cls := 9, slots := #[.ref 6, .int 0, .int 0, .int 0], vm := .none },
  { cls := 9, slots := #[.ref 7, .int 0, .int 0, .int 0], vm := .none },
  { cls := 6, slots := #[.null, .int 0, .int 0, .ref 8], vm := .none },
  { cls := 6, slots := #[.null, .int 1, .int 0, .ref 9], vm := .none },
  { cls := 6, slots := #[.null, .int 2, .int 0, .ref 10], vm := .none },
  { cls := 6, slots := #[.null, .int 3, .int 0, .ref 11], vm := .none },
  { cls := 6, slots := #[.null, .int 4, .int 0, .ref 12], vm := .none }]
def classes : Array Class := #[k0, k1, k2, k3, k4, k5, k6, k7, k8, k9, k10, k11, k12, k13, k14, k15, k16, k17]
def interned : List (Array UInt16 × Addr) := []
def slotsUsed : Nat := 70
def theMethod : MethodId := ⟨1, 2⟩
def args0 : Array Value := #[.int 3]
def aboutOver (below : List Frame) : State where
  vm := { classes := classes, interned := interned.toArray }
  heap := heap
  slotsUsed := slotsUsed
  threads := #[{ frames := .invoking theMethod args0 :: below }]
def below0 : List Frame := [.native { method := ⟨0, 0⟩, args := #[] }]
def about1 : State := aboutOver below0
def p0 : Program := .bare "" "" ""
def e0 : Env := launch0.env 0 0 0
theorem w_frames : about1.frames = Frame.invoking theMethod args0 :: below0 := rfl
set_option maxRecDepth 65536 in
theorem w_args : argsFit about1.vm theMethod args0 = true := by decide +kernel
set_option maxRecDepth 65536 in
theorem w_heap : heapFits about1 = true := by decide +kernel
set_option maxRecDepth 65536 in
theorem w_runnable : about1.curStatus? = some .runnable := by decide +kernel
set_option maxRecDepth 65536 in
theorem w_alone : about1.alone = true := by decide +kernel
set_option maxRecDepth 65536 in
theorem w_named : about1.methodNamed? x = some theMethod := by decide +kernel
set_option maxRecDepth 65536 in
theorem w_hears : about1.hears theMethod below0 = true := by decide +kernel
set_option maxRecDepth 65536 in
theorem w_ripe : about1.ripe theMethod args0 below0 = true := by decide +kernel
theorem w_running : about1.status = .running := rfl
set_option maxRecDepth 65536 in
theorem w_room : about1.hasRoom e0.platform room_1 = true :=
  launch0.hasRoom_least _ room_1 (by decide +kernel) (by decide +kernel) (by decide +kernel) (by decide +kernel) (by decide +kernel) (by decide +kernel)
theorem allAtoms_all (ts : List Jvm.Cond) (a : Array Jvm.Value) (st : Jvm.State) : (allAtoms ts).before a st = ts.all (fun c => c.before a st) := by
  induction ts with
  | nil => rfl
  | cons c t ih =>
    show (Jvm.Cond.and c (allAtoms t)).before a st = _
    rw [Jvm.Cond.before_and, ih, List.all_cons]
def words1 : List Jvm.Cond := Jvm.Cond.code x code maxLocals ret :: tables_1
/-- a 'code' word, met by the world's own term for the bytes: nothing is compared byte by byte -/
theorem code_word {y : MethodName} {bytes : ByteArray} {mx : Nat} {rt : Option FieldType} {a : Array Value} {s : State} {m : MethodId} {meth : Method} {c : Code} (h1 : s.methodNamed? y = some m) (h2 : s.vm.method? m = some meth) (h3 : meth.code = some c) (h4 : c.code = bytes)
    (h5 : (c.maxLocals == mx && c.exceptionTable.isEmpty && decide (c.maxStack ≤ mostOperands) && decide (meth.sig.returnType = rt) && !meth.locks && decide (parseMethodDescriptor y.desc = some meth.sig)) = true) : (Jvm.Cond.code y bytes mx rt).before a s = true := by
  simp only [Bool.and_eq_true, beq_iff_eq, Bool.not_eq_true', decide_eq_true_eq] at h5
  obtain ⟨⟨⟨⟨⟨g1, g2⟩, g3⟩, g4⟩, g5⟩, g6⟩ := h5
  simp [Cond.before, Cond.holds, Cond.value, h1, h2, h3, h4, g1, g2, g3, g4, g5, g6]
def isCode : Jvm.Cond → Bool
  | .code _ _ _ _ => true
  | _ => false
theorem all_split {L : List Jvm.Cond} {P : Jvm.Cond → Bool} (h1 : L.all (fun c => isCode c || P c) = true) (h2 : ∀ c ∈ L.filter isCode, P c = true) : L.all P = true := by
  refine List.all_eq_true.mpr fun c hc => ?_
  have h := List.all_eq_true.mp h1 c hc
  rcases Bool.eq_false_or_eq_true (isCode c) with hi | hi
  · exact h2 c (List.mem_filter.mpr ⟨hc, hi⟩)
  · simpa [hi] using h
set_option maxRecDepth 65536 in
theorem w_c0 : (Jvm.Cond.code x code maxLocals ret).before args0 about1 = true := code_word (m := ⟨1, 2⟩) (meth := k1m2) (c := k1c2) (by decide +kernel) rfl rfl rfl (by decide +kernel)
set_option maxRecDepth 65536 in
theorem w_c1 : (Jvm.Cond.code ({ cls := "com/example/bracegraph/bracegraph/io/FormatWritesPinLaw", name := "pick", desc := "(I)Lcom/example/bracegraph/bracegraph/io/Format;" } : Jvm.MethodName) method_2_code (1 : Nat) (Option.some (Jvm.ClassFile.FieldType.object "com/example/bracegraph/bracegraph/io/Format"))).before args0 about1 = true := code_word (m := ⟨1, 1⟩) (meth := k1m1) (c := k1c1) (by decide +kernel) rfl rfl rfl (by decide +kernel)
set_option maxRecDepth 65536 in
theorem w_c2 : (Jvm.Cond.code ({ cls := "com/example/bracegraph/bracegraph/io/Format", name := "extension", desc := "()Ljava/lang/String;" } : Jvm.MethodName) prog_5_method_4_code (1 : Nat) (Option.some (Jvm.ClassFile.FieldType.object "java/lang/String"))).before args0 about1 = true := code_word (m := ⟨6, 0⟩) (meth := k6m0) (c := k6c0) (by decide +kernel) rfl rfl rfl (by decide +kernel)
set_option maxRecDepth 65536 in
theorem w_c3 : (Jvm.Cond.code ({ cls := "java/lang/String", name := "equals", desc := "(Ljava/lang/Object;)Z" } : Jvm.MethodName) jdk_42_method_66_code (3 : Nat) (Option.some Jvm.ClassFile.FieldType.boolean)).before args0 about1 = true := code_word (m := ⟨9, 1⟩) (meth := k9m1) (c := k9c1) (by decide +kernel) rfl rfl rfl (by decide +kernel)
set_option maxRecDepth 65536 in
theorem w_c4 : (Jvm.Cond.code ({ cls := "java/lang/StringLatin1", name := "equals", desc := "([B[B)Z" } : Jvm.MethodName) jdk_43_method_13_code (3 : Nat) (Option.some Jvm.ClassFile.FieldType.boolean)).before args0 about1 = true := code_word (m := ⟨10, 1⟩) (meth := k10m1) (c := k10c1) (by decide +kernel) rfl rfl rfl (by decide +kernel)
set_option maxRecDepth 65536 in
theorem w_c5 : (Jvm.Cond.code ({ cls := "com/example/bracegraph/bracegraph/io/Format", name := "writes", desc := "()Z" } : Jvm.MethodName) prog_5_method_9_code (1 : Nat) (Option.some Jvm.ClassFile.FieldType.boolean)).before args0 about1 = true := code_word (m := ⟨6, 1⟩) (meth := k6m1) (c := k6c1) (by decide +kernel) rfl rfl rfl (by decide +kernel)
def codes1 : List Jvm.Cond := [Jvm.Cond.code x code maxLocals ret, Jvm.Cond.code ({ cls := "com/example/bracegraph/bracegraph/io/FormatWritesPinLaw", name := "pick", desc := "(I)Lcom/example/bracegraph/bracegraph/io/Format;" } : Jvm.MethodName) method_2_code (1 : Nat) (Option.some (Jvm.ClassFile.FieldType.object "com/example/bracegraph/bracegraph/io/Format")), Jvm.Cond.code ({ cls := "com/example/bracegraph/bracegraph/io/Format", name := "extension", desc := "()Ljava/lang/String;" } : Jvm.MethodName) prog_5_method_4_code (1 : Nat) (Option.some (Jvm.ClassFile.FieldType.object "java/lang/String")), Jvm.Cond.code ({ cls := "java/lang/String", name := "equals", desc := "(Ljava/lang/Object;)Z" } : Jvm.MethodName) jdk_42_method_66_code (3 : Nat) (Option.some Jvm.ClassFile.FieldType.boolean), Jvm.Cond.code ({ cls := "java/lang/StringLatin1", name := "equals", desc := "([B[B)Z" } : Jvm.MethodName) jdk_43_method_13_code (3 : Nat) (Option.some Jvm.ClassFile.FieldType.boolean), Jvm.Cond.code ({ cls := "com/example/bracegraph/bracegraph/io/Format", name := "writes", desc := "()Z" } : Jvm.MethodName) prog_5_method_9_code (1 : Nat) (Option.some Jvm.ClassFile.FieldType.boolean)]
set_option maxRecDepth 65536 in
theorem codes_eq : words1.filter isCode = codes1 := rfl
theorem w_codes : ∀ c ∈ words1.filter isCode, c.before args0 about1 = true := by
  rw [codes_eq]
  intro c hc
  simp only [codes1, List.mem_cons, List.not_mem_nil, or_false] at hc
  rcases hc with rfl | rfl | rfl | rfl | rfl | rfl
  · exact w_c0
  · exact w_c1
  · exact w_c2
  · exact w_c3
  · exact w_c4
  · exact w_c5
set_option maxRecDepth 65536 in
theorem w_t1 : (words1.take 24).all (fun c => isCode c || c.before args0 about1) = true := by decide +kernel
set_option maxRecDepth 65536 in
theorem w_t2 : ((words1.drop 24).take 24).all (fun c => isCode c || c.before args0 about1) = true := by decide +kernel
set_option maxRecDepth 65536 in
theorem w_t3 : ((words1.drop 24).drop 24).all (fun c => isCode c || c.before args0 about1) = true := by decide +kernel
theorem w_tables : (allAtoms (Jvm.Cond.code x code maxLocals ret :: tables_1)).before args0 about1 = true := by
  rw [allAtoms_all]
  show words1.all (fun c => c.before args0 about1) = true
  refine all_split ?_ w_codes
  rw [← List.take_append_drop 24 words1, List.all_append, w_t1, ← List.take_append_drop 24 (words1.drop 24), List.all_append, w_t2, w_t3]
  rfl
set_option maxRecDepth 65536 in
theorem w_rest : rest_1_c.before args0 about1 = true := by decide +kernel
set_option maxRecDepth 65536 in
theorem w_case : (Jvm.Cond.and given_1 narrow_1).before args0 about1 = true := by decide +kernel
set_option maxRecDepth 65536 in
theorem w_consts : constsHeld consts_1 about1 := Jvm.Lit.constsHeldB_iff.mp (by decide +kernel)
theorem w_applies : (headSpec (Jvm.Cond.code x code maxLocals ret :: tables_1) room_1).applies x e0.platform about1 = true :=
  (Spec.applies_iff w_frames).mpr ⟨w_running, w_runnable, w_alone, w_named, w_hears, w_ripe, w_room, w_tables⟩
theorem atStart : AtStart classFile x code maxLocals ret World_1 tables_1 room_1 Calls_1 rest_1 Pre_1 launch0 p0 e0 about1 theMethod args0 below0 :=
  ⟨lists_1, trivial, launch0.admits_env _ _ _, launch0.least_env, fairChoices_fair.cas, fairChoices_fair.clock, w_frames, w_args, w_heap, w_applies, ⟨w_consts, trivial⟩, w_rest, w_case⟩
end start1
theorem witness_1 : WitnessClaimed_1 := ⟨start1.p0, start1.e0, start1.about1, start1.theMethod, start1.args0, start1.below0, start1.atStart⟩
end Jvm.Pilot.@@N@@
