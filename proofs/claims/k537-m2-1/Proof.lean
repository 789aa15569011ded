import JvmDerived
import JvmDerived.Pilot.@@N@@Statement
import JvmDerived.Pilot.@@N@@Code
set_option linter.unusedVariables false
set_option linter.unusedSimpArgs false
set_option maxHeartbeats 4000000
namespace Jvm.Pilot.@@N@@
open Jvm Jvm.ClassFile Sem Op Lib Jvm.Free Jvm.Stand Jvm.LawKit Jvm.RoadKit Bundle Jvm.Pilot.@@N@@.Jvm.D
/-! LAYER: an abstract walk over own objects (printed by wip/layer/mklayer.py) -/
abbrev oC : Type := (Nat × List Value) ⊕ (FieldType × List Value)
abbrev oH : Type := List oC
abbrev oK : Type := Nat → String × List (String × String × String)
abbrev oS : Type := Nat × List Slot × List Value × oH × Nat × Nat
/-- where the own objects lie, and others (written as return addresses, which no code here has) -/
abbrev oM : Type := (Nat → Nat) × (Nat → Nat)
def ov (ρ : oM) : Value → Value
  | .ref k => .ref (ρ.1 k)
  | .retAddr k => .ref (ρ.2 k)
  | v => v
def osl (ρ : oM) : Slot → Slot
  | .val v => .val (ov ρ v)
  | x => x
theorem ov_cat (ρ : oM) (v : Value) : (ov ρ v).category = v.category := by cases v <;> rfl
theorem ov_dflt (ρ : oM) (t : FieldType) : ov ρ (defaultValue t) = defaultValue t := by cases t <;> rfl
/-- what an own cell is, in the heap -/
def oR (Z : State) (K : oK) (ρ : oM) (h : Heap) (a : Addr) (c : oC) : Prop := match c with
  | .inl o => Exa Z h a (K o.1).1 ∧ ∀ (i : Nat) (f : String × String × String) (v : Value), (K o.1).2[i]? = some f → o.2[i]? = some v → Fld Z h a f.1 f.2.1 f.2.2 (ov ρ v)
  | .inr q => (q.2.length < 2 ^ 31 ∧ ∀ w ∈ q.2, fits q.1 (ov ρ w) = true) ∧ ∃ cl : Cell, Arr Z h a cl q.1 ∧ cl.slots = (q.2.map (ov ρ)).toArray
def oRep (Z : State) (K : oK) (ρ : oM) (h : Heap) (A : oH) : Prop := (h.size = ρ.1 A.length ∧ (∀ k, A.length ≤ k → ρ.1 (k + 1) = ρ.1 k + 1) ∧ ∀ j k, j < k → ρ.1 j < ρ.1 k) ∧ ∀ (k : Nat) (c : oC), A[k]? = some c → oR Z K ρ h (ρ.1 k) c
theorem oR.ext {Z : State} {K : oK} {ρ : oM} {h h' : Heap} {a : Addr} {c : oC} (E : Ext h h') (H : oR Z K ρ h a c) : oR Z K ρ h' a c := by
  rcases c with o | q
  · exact ⟨H.1.ext E, fun i f v h1 h2 => (H.2 i f v h1 h2).ext E⟩
  · obtain ⟨h1, cl, h2, h3⟩ := H
    exact ⟨h1, cl, h2.ext E, h3⟩
theorem oR.other {Z : State} {K : oK} {ρ : oM} {h h' : Heap} {a b : Addr} {sl : Nat} {v : Value} {c : oC} (W : Wr h h' a sl v) (hne : b ≠ a) (H : oR Z K ρ h b c) : oR Z K ρ h' b c := by
  rcases c with o | q
  · exact ⟨H.1.wr W, fun i f w h1 h2 => (H.2 i f w h1 h2).other W (Or.inl hne)⟩
  · obtain ⟨h1, cl, h2, h3⟩ := H
    exact ⟨h1, cl, h2.other W hne, h3⟩
theorem oRep.ne {Z : State} {K : oK} {ρ : oM} {h : Heap} {A : oH} (H : oRep Z K ρ h A) {j k : Nat} (q : j ≠ k) : ρ.1 j ≠ ρ.1 k := by
  rcases Nat.lt_or_gt_of_ne q with q | q
  · exact Nat.ne_of_lt (H.1.2.2 _ _ q)
  · exact Nat.ne_of_gt (H.1.2.2 _ _ q)
theorem oRep.ge {Z : State} {K : oK} {ρ : oM} {h : Heap} {A : oH} (H : oRep Z K ρ h A) (k : Nat) : ρ.1 0 ≤ ρ.1 k := by
  rcases Nat.eq_zero_or_pos k with q | q
  · rw [q]; exact Nat.le_refl _
  · exact Nat.le_of_lt (H.1.2.2 _ _ q)
theorem oRep.push {Z : State} {K : oK} {ρ : oM} {h h' : Heap} {A : oH} {c : oC} (H : oRep Z K ρ h A) (E : Ext h h') (hs : h'.size = h.size + 1) (hc : oR Z K ρ h' h.size c) : oRep Z K ρ h' (A ++ [c]) := by
  refine ⟨⟨by rw [hs, H.1.1, List.length_append]; exact (H.1.2.1 _ (Nat.le_refl _)).symm, fun k hk => H.1.2.1 k (by rw [List.length_append] at hk; omega), H.1.2.2⟩, fun k d hd => ?_⟩
  rcases Nat.lt_trichotomy k A.length with q | q | q
  · rw [List.getElem?_append_left q] at hd
    exact (H.2 k d hd).ext E
  · subst q
    simp at hd
    subst hd
    rw [← H.1.1]; exact hc
  · rw [List.getElem?_eq_none (by simp; omega)] at hd; cases hd
theorem oRep.wr {Z : State} {K : oK} {ρ : oM} {h h' : Heap} {A : oH} {c : oC} {k sl : Nat} {v : Value} (H : oRep Z K ρ h A) (W : Wr h h' (ρ.1 k) sl v) (hc : oR Z K ρ h' (ρ.1 k) c) : oRep Z K ρ h' (A.set k c) := by
  refine ⟨⟨by rw [W.size, H.1.1, List.length_set], by rw [List.length_set]; exact H.1.2.1, H.1.2.2⟩, fun j d hd => ?_⟩
  by_cases q : j = k
  · subst q
    by_cases hj : j < A.length
    · rw [List.getElem?_set_self hj] at hd; cases hd; exact hc
    · rw [List.getElem?_eq_none (by simp; omega)] at hd; cases hd
  · rw [List.getElem?_set_ne (Ne.symm q)] at hd
    exact (H.2 j d hd).other W (H.ne q)
/-- the fields that a class lays, with their words -/
def oLaid (Z : State) (a0 : Array Value) (C : String) : List (String × String × String) → Prop
  | [] => True
  | f :: fs => (Laid Z a0 C f.1 f.2.1 f.2.2 ∧ ∃ t, parseFieldDescriptor f.2.2 = some t) ∧ oLaid Z a0 C fs
theorem oLaid.at {Z : State} {a0 : Array Value} {C : String} : ∀ {fs : List (String × String × String)}, oLaid Z a0 C fs → ∀ (i : Nat) (f : String × String × String), fs[i]? = some f → Laid Z a0 C f.1 f.2.1 f.2.2 ∧ ∃ t, parseFieldDescriptor f.2.2 = some t
  | [], _, i, f, h => by simp at h
  | g :: gs, H, 0, f, h => by simp at h; subst h; exact H.1
  | g :: gs, H, i + 1, f, h => oLaid.at H.2 i f (by simpa using h)
def oDistinct (fs : List (String × String × String)) : Prop := ∀ (i j : Nat) (f g : String × String × String), fs[i]? = some f → fs[j]? = some g → i ≠ j → f.2.1 ≠ g.2.1
theorem oDistinct.of {fs : List (String × String × String)} (h : (fs.map fun f => f.2.1).Nodup) : oDistinct fs := fun i j f g hi hj hne e => by
  have h1 : (fs.map fun f => f.2.1)[i]? = some f.2.1 := by simp [hi]
  have h2 : (fs.map fun f => f.2.1)[j]? = some g.2.1 := by simp [hj]
  obtain ⟨q1, e1⟩ := List.getElem?_eq_some_iff.mp h1
  obtain ⟨q2, e2⟩ := List.getElem?_eq_some_iff.mp h2
  have hp := List.pairwise_iff_getElem.mp h
  rcases Nat.lt_or_gt_of_ne hne with q | q
  · exact hp i j q1 q2 q (by rw [e1, e2, e])
  · exact hp j i q2 q1 q (by rw [e1, e2, e])
def oKOk (Z : State) (a0 : Array Value) (K : oK) (cid : Nat) : Prop := oLaid Z a0 (K cid).1 (K cid).2 ∧ oDistinct (K cid).2
def oDflt : List (String × String × String) → List Value → Prop
  | [], [] => True
  | f :: fs, v :: vs => (∃ t, parseFieldDescriptor f.2.2 = some t ∧ v = defaultValue t) ∧ oDflt fs vs
  | _, _ => False
theorem oDflt.at : ∀ {fs : List (String × String × String)} {vs : List Value}, oDflt fs vs → ∀ (i : Nat) (f : String × String × String) (v : Value), fs[i]? = some f → vs[i]? = some v → ∃ t, parseFieldDescriptor f.2.2 = some t ∧ v = defaultValue t
  | [], [], _, i, f, v, h, _ => by simp at h
  | [], w :: ws, H, _, _, _, _, _ => H.elim
  | g :: gs, [], H, _, _, _, _, _ => H.elim
  | g :: gs, w :: ws, H, 0, f, v, h, h' => by simp at h h'; subst h h'; exact H.1
  | g :: gs, w :: ws, H, i + 1, f, v, h, h' => oDflt.at H.2 i f v (by simpa using h) (by simpa using h')
/-! the local variables -/
def oAt (L : List Slot) (i : Nat) (x : Slot) : Option (List Slot) := if i < L.length then some (L.set i x) else none
def oSelf (L : List Slot) (i : Nat) (v : Value) : Option (List Slot) :=
  (oAt L i (.val v)).bind fun L =>
  if v.category = 2 then
    (L[i + 1]?).bind fun x => match x with
      | .val old => if old.category = 2 then (oAt L (i + 2) .unset).bind fun L => oAt L (i + 1) .second else oAt L (i + 1) .second
      | .unset => oAt L (i + 1) .second
      | .second => oAt L (i + 1) .second
  else some L
def oSt (L : List Slot) (i : Nat) (v : Value) : Option (List Slot) :=
  (L[i]?).bind fun x => match x with
    | .second => (oAt L (i - 1) .unset).bind fun L => oSelf L i v
    | .val old => if old.category = 2 then (oAt L (i + 1) .unset).bind fun L => oSelf L i v else oSelf L i v
    | .unset => oSelf L i v
theorem oget {ρ : oM} {L : List Slot} {k : Nat} {x : Slot} (h : L[k]? = some x) : (L.map (osl ρ)).toArray[k]? = some (osl ρ x) := by simp [h]
theorem oAt_ok {ρ : oM} {L L' : List Slot} {i : Nat} {x : Slot} (h : oAt L i x = some L') : setAt (L.map (osl ρ)).toArray i (osl ρ x) = some (L'.map (osl ρ)).toArray ∧ L'.length = L.length := by
  unfold oAt at h
  split at h
  · rename_i hi
    cases h
    refine ⟨?_, by simp⟩
    have hi' : i < (L.map (osl ρ)).toArray.size := by simpa using hi
    have e : setAt (L.map (osl ρ)).toArray i (osl ρ x) = some ((L.map (osl ρ)).toArray.setIfInBounds i (osl ρ x)) := if_pos hi'
    rw [e]; simp
  · cases h
theorem oSelf_eq {l : Array Slot} {i : Nat} {v : Value} : storeSelf l i v = ((setAt l i (.val v)).bind fun l => if v.category = 2 then (l[i + 1]?).bind fun x => match x with
      | .val old => if old.category = 2 then (setAt l (i + 2) .unset).bind fun l => setAt l (i + 1) .second else setAt l (i + 1) .second
      | .unset => setAt l (i + 1) .second
      | .second => setAt l (i + 1) .second
  else some l) := by
  show (setAt l i (.val v)).bind _ = _
  cases setAt l i (.val v) with
  | none => rfl
  | some l =>
    show (if v.category = 2 then _ else _) = (if v.category = 2 then _ else _)
    split
    · show (l[i + 1]?).bind _ = (l[i + 1]?).bind _
      cases l[i + 1]? with
      | none => rfl
      | some x => cases x <;> rfl
    · rfl
theorem oSelf_ok {ρ : oM} {L L' : List Slot} {i : Nat} {v : Value} (h : oSelf L i v = some L') : storeSelf (L.map (osl ρ)).toArray i (ov ρ v) = some (L'.map (osl ρ)).toArray ∧ L'.length = L.length := by
  rw [oSelf_eq]
  unfold oSelf at h
  obtain ⟨L1, h1, h⟩ := Option.bind_eq_some_iff.mp h
  have q1 := oAt_ok (ρ := ρ) h1
  have q1' : setAt (L.map (osl ρ)).toArray i (.val (ov ρ v)) = some (L1.map (osl ρ)).toArray := q1.1
  rw [q1', ov_cat]
  show (if v.category = 2 then _ else _) = _ ∧ _
  split at h
  · rename_i hc
    rw [if_pos hc]
    obtain ⟨x, h2, h⟩ := Option.bind_eq_some_iff.mp h
    rw [oget h2]
    cases x with
    | unset => have q := oAt_ok (ρ := ρ) h; exact ⟨q.1, q.2.trans q1.2⟩
    | second => have q := oAt_ok (ρ := ρ) h; exact ⟨q.1, q.2.trans q1.2⟩
    | val old =>
      show (if (ov ρ old).category = 2 then _ else _) = _ ∧ _
      rw [ov_cat]
      dsimp only at h
      split at h
      · rename_i hc2
        rw [if_pos hc2]
        obtain ⟨L2, h3, h⟩ := Option.bind_eq_some_iff.mp h
        have q2 := oAt_ok (ρ := ρ) h3
        have q2' : setAt (L1.map (osl ρ)).toArray (i + 2) .unset = some (L2.map (osl ρ)).toArray := q2.1
        rw [q2']
        have q := oAt_ok (ρ := ρ) h
        exact ⟨q.1, (q.2.trans q2.2).trans q1.2⟩
      · rename_i hc2
        rw [if_neg hc2]
        have q := oAt_ok (ρ := ρ) h
        exact ⟨q.1, q.2.trans q1.2⟩
  · rename_i hc
    rw [if_neg hc]
    cases h
    exact ⟨rfl, q1.2⟩
theorem oSt_eq {l : Array Slot} {i : Nat} {v : Value} : storeLocals l i v = ((l[i]?).bind fun x => match x with
    | .second => (setAt l (i - 1) .unset).bind fun l => storeSelf l i v
    | .val old => if old.category = 2 then (setAt l (i + 1) .unset).bind fun l => storeSelf l i v else storeSelf l i v
    | .unset => storeSelf l i v) := by
  show (l[i]?).bind _ = (l[i]?).bind _
  cases l[i]? with
  | none => rfl
  | some x => cases x <;> rfl
theorem oSt_ok {ρ : oM} {L L' : List Slot} {i : Nat} {v : Value} (h : oSt L i v = some L') : storeLocals (L.map (osl ρ)).toArray i (ov ρ v) = some (L'.map (osl ρ)).toArray ∧ L'.length = L.length := by
  rw [oSt_eq]
  unfold oSt at h
  obtain ⟨x, h1, h⟩ := Option.bind_eq_some_iff.mp h
  rw [oget h1]
  cases x with
  | unset => exact oSelf_ok h
  | second =>
    obtain ⟨L1, h2, h⟩ := Option.bind_eq_some_iff.mp h
    have q1 := oAt_ok (ρ := ρ) h2
    have q1' : setAt (L.map (osl ρ)).toArray (i - 1) .unset = some (L1.map (osl ρ)).toArray := q1.1
    show (setAt _ _ _).bind _ = _ ∧ _
    rw [q1']
    have q := oSelf_ok (ρ := ρ) h
    exact ⟨q.1, q.2.trans q1.2⟩
  | val old =>
    show (if (ov ρ old).category = 2 then _ else _) = _ ∧ _
    rw [ov_cat]
    dsimp only at h
    split at h
    · rename_i hc
      rw [if_pos hc]
      obtain ⟨L1, h2, h⟩ := Option.bind_eq_some_iff.mp h
      have q1 := oAt_ok (ρ := ρ) h2
      have q1' : setAt (L.map (osl ρ)).toArray (i + 1) .unset = some (L1.map (osl ρ)).toArray := q1.1
      rw [q1']
      have q := oSelf_ok (ρ := ρ) h
      exact ⟨q.1, q.2.trans q1.2⟩
    · rename_i hc
      rw [if_neg hc]
      exact oSelf_ok h
/-- a slot of any kind of one word is written over -/
theorem oSt_one {L : List Slot} {i : Nat} {v : Value} {o : Slot} (h : L[i]? = some o) (ho : One o) (hv : v.category = 1) : oSt L i v = some (L.set i (.val v)) := by
  have hi := (List.getElem?_eq_some_iff.mp h).1
  have e : oSelf L i v = some (L.set i (.val v)) := by
    unfold oSelf oAt
    rw [if_pos hi]
    show (if v.category = 2 then _ else _) = _
    rw [if_neg (by omega)]
  unfold oSt
  rw [h]
  rcases ho with rfl | ⟨w, rfl, hw⟩
  · exact e
  · show (if w.category = 2 then _ else _) = _
    rw [if_neg (by omega)]; exact e
/-! the judgements -/
abbrev oF (ρ : oM) (m : MethodId) (a : oS) : JFrame := mkF m a.1 (a.2.1.map (osl ρ)).toArray (a.2.2.1.map (ov ρ))
/-- from the abstract state a the walk comes to b -/
def Sim (l : Launch) (Z : State) (K : oK) (ρ : oM) (own mn : String) (bytes : ByteArray) (ml : Nat) (R : Room) (a b : oS) : Prop :=
  ∀ (p : Program) (e : Env) (s : State) (m : MethodId) (args : Array Value) (below : List Frame) (meth : Method) (c : Code) (T : State) (locs : List Loc),
    Stand p l e R s m args below meth c T locs a.2.2.2.2.1 a.2.2.2.2.2 → p.tables.exec = Jvm.exec → Z.Warmed39 s.vm → c.code = bytes → c.maxLocals = ml → s.vm.findClass own = some m.cls → meth.name = mn → oRep Z K ρ T.heap a.2.2.2.1 → Fr (ρ.1 0) locs → a.2.1.length = ml →
    ∃ (T' : State) (locs' : List Loc), Stand p l e R s m args below meth c T' locs' b.2.2.2.2.1 b.2.2.2.2.2 ∧ oRep Z K ρ T'.heap b.2.2.2.1 ∧ Fr (ρ.1 0) locs' ∧ b.2.1.length = ml ∧
      ∀ target, Steps p.tables e below (T'.setTop (oF ρ m b)) target → Steps p.tables e below (T.setTop (oF ρ m a)) target
/-- from the abstract state a the method returns v, and its own heap is then A' -/
def Ends (l : Launch) (Z : State) (K : oK) (ρ : oM) (own mn : String) (bytes : ByteArray) (ml : Nat) (R : Room) (ret : Option FieldType) (a : oS) (v : Option Value) (A' : oH) : Prop :=
  ∀ (p : Program) (e : Env) (s : State) (m : MethodId) (args : Array Value) (below : List Frame) (meth : Method) (c : Code) (T : State) (locs : List Loc),
    Stand p l e R s m args below meth c T locs a.2.2.2.2.1 a.2.2.2.2.2 → p.tables.exec = Jvm.exec → Z.Warmed39 s.vm → c.code = bytes → c.maxLocals = ml → s.vm.findClass own = some m.cls → meth.name = mn → oRep Z K ρ T.heap a.2.2.2.1 → Fr (ρ.1 0) locs → a.2.1.length = ml →
    meth.sig.returnType = ret → meth.locks = false →
    ∃ (s₂ : State) (locs' : List Loc), Steps p.tables e below (T.setTop (oF ρ m a)) s₂ ∧ s₂.status = .running ∧ Ended s₂ below (.returned (v.map (ov ρ))) ∧ Fr (ρ.1 0) locs' ∧ oRep Z K ρ s₂.heap A' ∧ s.WarmedH s₂.vm ∧ s.sameButNew ({ s₂ with vm := s.vm } : State) locs' R.cells R.slots
/-- the contract of a method at given arguments and own heap -/
def Met (l : Launch) (Z : State) (K : oK) (ρ : oM) (y : MethodName) (bytes : ByteArray) (ml : Nat) (ret : Option FieldType) (rm : Room) (ws : List Jvm.Cond) (as : List Value) (A : oH) (v : Option Value) (A' : oH) : Prop :=
  ∀ h0, oRep Z K ρ h0 A → MetFree l y (head1 (Jvm.Cond.code y bytes ml ret :: ws) rm) (fun a U => a = (as.map (ov ρ)).toArray ∧ Z.Warmed39 U.vm ∧ U.heap = h0) (fun _ _ _ _ _ => True)
    (fun _ U o U' => ∃ v' L, o = .returned v' ∧ (v' = v.map (ov ρ) ∧ Fr (ρ.1 0) L ∧ oRep Z K ρ U'.heap A') ∧ FrameEnd U o U' L rm.cells rm.slots)
section Layer
variable {l : Launch} {Z : State} {K : oK} {ρ : oM} {own mn : String} {bytes : ByteArray} {ml : Nat} {R : Room} {ret : Option FieldType} {a0 : Array Value}
variable {pc pc' : Nat} {L L' : List Slot} {S S' : List Value} {A A' : oH} {c n : Nat} {v : Option Value}
theorem Sim.rf (a : oS) : Sim l Z K ρ own mn bytes ml R a a := fun p e s m args below meth c T locs X _ _ _ _ _ _ hR hF hL => ⟨T, locs, X, hR, hF, hL, fun _ k => k⟩
theorem Sim.tr {a b d : oS} (h1 : Sim l Z K ρ own mn bytes ml R a b) (h2 : Sim l Z K ρ own mn bytes ml R b d) : Sim l Z K ρ own mn bytes ml R a d := fun p e s m args below meth c T locs X hx hZ hby hml hown hnm hR hF hL => by
  obtain ⟨T1, l1, X1, R1, F1, L1, k1⟩ := h1 p e s m args below meth c T locs X hx hZ hby hml hown hnm hR hF hL
  obtain ⟨T2, l2, X2, R2, F2, L2, k2⟩ := h2 p e s m args below meth c T1 l1 X1 hx hZ hby hml hown hnm R1 F1 L1
  exact ⟨T2, l2, X2, R2, F2, L2, fun t k => k1 t (k2 t k)⟩
theorem Ends.st {a b : oS} (h1 : Sim l Z K ρ own mn bytes ml R a b) (h2 : Ends l Z K ρ own mn bytes ml R ret b v A') : Ends l Z K ρ own mn bytes ml R ret a v A' := fun p e s m args below meth c T locs X hx hZ hby hml hown hnm hR hF hL hrt hlk => by
  obtain ⟨T1, l1, X1, R1, F1, L1, k1⟩ := h1 p e s m args below meth c T locs X hx hZ hby hml hown hnm hR hF hL
  obtain ⟨s2, l2, g1, g2⟩ := h2 p e s m args below meth c T1 l1 X1 hx hZ hby hml hown hnm R1 F1 L1 hrt hlk
  exact ⟨s2, l2, k1 s2 g1, g2⟩
/-- the same, whatever its own heap is then -/
def EndsE (l : Launch) (Z : State) (K : oK) (ρ : oM) (own mn : String) (bytes : ByteArray) (ml : Nat) (R : Room) (ret : Option FieldType) (a : oS) (v : Option Value) : Prop := ∃ A', Ends l Z K ρ own mn bytes ml R ret a v A'
theorem EndsE.st {a b : oS} (h1 : Sim l Z K ρ own mn bytes ml R a b) (h2 : EndsE l Z K ρ own mn bytes ml R ret b v) : EndsE l Z K ρ own mn bytes ml R ret a v := h2.imp fun _ h => Ends.st h1 h
theorem Sim.pure (hl : L'.length = L.length)
    (h : ∀ (p : Program) (e : Env) (s : State) (m : MethodId) (args : Array Value) (below : List Frame) (meth : Method) (cd : Code) (T : State) (locs : List Loc), Stand p l e R s m args below meth cd T locs c n → p.tables.exec = Jvm.exec → Z.Warmed39 s.vm → cd.code = bytes → s.vm.findClass own = some m.cls →
      ∀ target, Steps p.tables e below (T.setTop (oF ρ m (pc', L', S', A, c, n))) target → Steps p.tables e below (T.setTop (oF ρ m (pc, L, S, A, c, n))) target) :
    Sim l Z K ρ own mn bytes ml R (pc, L, S, A, c, n) (pc', L', S', A, c, n) :=
  fun p e s m args below meth cd T locs X hx hZ hby hml hown hnm hR hF hL => ⟨T, locs, X, hR, hF, hl.trans hL, h p e s m args below meth cd T locs X hx hZ hby hown⟩

theorem s_iload {j : Nat} {z : Int32} (hd : decode bytes pc = .ok (.iload j, 2)) (hl : L[j]? = some (.val (.int z))) : Sim l Z K ρ own mn bytes ml R (pc, L, S, A, c, n) (pc + 2, L, .int z :: S, A, c, n) :=
  Sim.pure rfl fun p e s m args below meth cd T locs X hx hZ hby hown target k => XS.iload X.here hx rfl (hb hby hd) (oget hl) k
theorem s_iloadN {j : Fin 4} {z : Int32} (hd : decode bytes pc = .ok (.iload_n j, 1)) (hl : L[j.val]? = some (.val (.int z))) : Sim l Z K ρ own mn bytes ml R (pc, L, S, A, c, n) (pc + 1, L, .int z :: S, A, c, n) :=
  Sim.pure rfl fun p e s m args below meth cd T locs X hx hZ hby hown target k => XS.iloadN X.here hx rfl (hb hby hd) (oget hl) k
theorem s_lload {j : Nat} {z : Int64} (hd : decode bytes pc = .ok (.lload j, 2)) (hl : L[j]? = some (.val (.long z))) : Sim l Z K ρ own mn bytes ml R (pc, L, S, A, c, n) (pc + 2, L, .long z :: S, A, c, n) :=
  Sim.pure rfl fun p e s m args below meth cd T locs X hx hZ hby hown target k => XS.lload X.here hx rfl (hb hby hd) (oget hl) k
theorem s_lloadN {j : Fin 4} {z : Int64} (hd : decode bytes pc = .ok (.lload_n j, 1)) (hl : L[j.val]? = some (.val (.long z))) : Sim l Z K ρ own mn bytes ml R (pc, L, S, A, c, n) (pc + 1, L, .long z :: S, A, c, n) :=
  Sim.pure rfl fun p e s m args below meth cd T locs X hx hZ hby hown target k => XS.lloadN X.here hx rfl (hb hby hd) (oget hl) k
theorem s_aload {j : Nat} {w : Value} (hd : decode bytes pc = .ok (.aload j, 2)) (hl : L[j]? = some (.val w)) (hv : (ov ρ w).isRef = true) : Sim l Z K ρ own mn bytes ml R (pc, L, S, A, c, n) (pc + 2, L, w :: S, A, c, n) :=
  Sim.pure rfl fun p e s m args below meth cd T locs X hx hZ hby hown target k => XS.aload X.here hx rfl (hb hby hd) (oget hl) hv k
theorem s_aloadN {j : Fin 4} {w : Value} (hd : decode bytes pc = .ok (.aload_n j, 1)) (hl : L[j.val]? = some (.val w)) (hv : (ov ρ w).isRef = true) : Sim l Z K ρ own mn bytes ml R (pc, L, S, A, c, n) (pc + 1, L, w :: S, A, c, n) :=
  Sim.pure rfl fun p e s m args below meth cd T locs X hx hZ hby hown target k => XS.aloadN X.here hx rfl (hb hby hd) (oget hl) hv k
theorem s_istore {j : Nat} {z : Int32} (hd : decode bytes pc = .ok (.istore j, 2)) (hl : oSt L j (.int z) = some L') : Sim l Z K ρ own mn bytes ml R (pc, L, .int z :: S, A, c, n) (pc + 2, L', S, A, c, n) :=
  Sim.pure (oSt_ok (ρ := ρ) hl).2 fun p e s m args below meth cd T locs X hx hZ hby hown target k => XS.istore X.here hx rfl (hb hby hd) rfl (oSt_ok (ρ := ρ) hl).1 k
theorem s_istoreN {j : Fin 4} {z : Int32} (hd : decode bytes pc = .ok (.istore_n j, 1)) (hl : oSt L j.val (.int z) = some L') : Sim l Z K ρ own mn bytes ml R (pc, L, .int z :: S, A, c, n) (pc + 1, L', S, A, c, n) :=
  Sim.pure (oSt_ok (ρ := ρ) hl).2 fun p e s m args below meth cd T locs X hx hZ hby hown target k => XS.istoreN X.here hx rfl (hb hby hd) rfl (oSt_ok (ρ := ρ) hl).1 k
theorem s_lstore {j : Nat} {z : Int64} (hd : decode bytes pc = .ok (.lstore j, 2)) (hl : oSt L j (.long z) = some L') : Sim l Z K ρ own mn bytes ml R (pc, L, .long z :: S, A, c, n) (pc + 2, L', S, A, c, n) :=
  Sim.pure (oSt_ok (ρ := ρ) hl).2 fun p e s m args below meth cd T locs X hx hZ hby hown target k => XS.lstore X.here hx rfl (hb hby hd) rfl (oSt_ok (ρ := ρ) hl).1 k
theorem s_lstoreN {j : Fin 4} {z : Int64} (hd : decode bytes pc = .ok (.lstore_n j, 1)) (hl : oSt L j.val (.long z) = some L') : Sim l Z K ρ own mn bytes ml R (pc, L, .long z :: S, A, c, n) (pc + 1, L', S, A, c, n) :=
  Sim.pure (oSt_ok (ρ := ρ) hl).2 fun p e s m args below meth cd T locs X hx hZ hby hown target k => XS.lstoreN X.here hx rfl (hb hby hd) rfl (oSt_ok (ρ := ρ) hl).1 k
theorem s_astore {j : Nat} {w : Value} (hd : decode bytes pc = .ok (.astore j, 2)) (hv : (ov ρ w).isRef = true) (hl : oSt L j w = some L') : Sim l Z K ρ own mn bytes ml R (pc, L, w :: S, A, c, n) (pc + 2, L', S, A, c, n) :=
  Sim.pure (oSt_ok (ρ := ρ) hl).2 fun p e s m args below meth cd T locs X hx hZ hby hown target k => XS.astore X.here hx rfl (hb hby hd) rfl hv (oSt_ok (ρ := ρ) hl).1 k
theorem s_astoreN {j : Fin 4} {w : Value} (hd : decode bytes pc = .ok (.astore_n j, 1)) (hv : (ov ρ w).isRef = true) (hl : oSt L j.val w = some L') : Sim l Z K ρ own mn bytes ml R (pc, L, w :: S, A, c, n) (pc + 1, L', S, A, c, n) :=
  Sim.pure (oSt_ok (ρ := ρ) hl).2 fun p e s m args below meth cd T locs X hx hZ hby hown target k => XS.astoreN X.here hx rfl (hb hby hd) rfl hv (oSt_ok (ρ := ρ) hl).1 k
theorem s_iinc {j : Nat} {i : Int} {z z' : Int32} (hd : decode bytes pc = .ok (.iinc j i, 3)) (h : L[j]? = some (.val (.int z))) (hz : z + Int32.ofInt i = z') (hl : oSt L j (.int z') = some L') : Sim l Z K ρ own mn bytes ml R (pc, L, S, A, c, n) (pc + 3, L', S, A, c, n) := by
  subst hz
  exact Sim.pure (oSt_ok (ρ := ρ) hl).2 fun p e s m args below meth cd T locs X hx hZ hby hown target k => XS.iinc X.here hx rfl (hb hby hd) (oget h) (oSt_ok (ρ := ρ) hl).1 k
theorem s_iconst {i : Int} {z : Int32} (hd : decode bytes pc = .ok (.iconst i, 1)) (hz : (Int32.ofInt i) = z) : Sim l Z K ρ own mn bytes ml R (pc, L, S, A, c, n) (pc + 1, L, .int z :: S, A, c, n) := by
  subst hz
  exact Sim.pure rfl fun p e s m args below meth cd T locs X hx hZ hby hown target k => XS.iconst X.here hx rfl (hb hby hd) k
theorem s_bipush {i : Int} {z : Int32} (hd : decode bytes pc = .ok (.bipush i, 2)) (hz : (Int8.ofInt i).toInt32 = z) : Sim l Z K ρ own mn bytes ml R (pc, L, S, A, c, n) (pc + 2, L, .int z :: S, A, c, n) := by
  subst hz
  exact Sim.pure rfl fun p e s m args below meth cd T locs X hx hZ hby hown target k => XS.bipush X.here hx rfl (hb hby hd) k
theorem s_sipush {i : Int} {z : Int32} (hd : decode bytes pc = .ok (.sipush i, 3)) (hz : (Int16.ofInt i).toInt32 = z) : Sim l Z K ρ own mn bytes ml R (pc, L, S, A, c, n) (pc + 3, L, .int z :: S, A, c, n) := by
  subst hz
  exact Sim.pure rfl fun p e s m args below meth cd T locs X hx hZ hby hown target k => XS.sipush X.here hx rfl (hb hby hd) k
theorem s_lconst {i : Fin 2} {z : Int64} (hd : decode bytes pc = .ok (.lconst i, 1)) (hz : Int64.ofNat i = z) : Sim l Z K ρ own mn bytes ml R (pc, L, S, A, c, n) (pc + 1, L, .long z :: S, A, c, n) := by
  subst hz
  exact Sim.pure rfl fun p e s m args below meth cd T locs X hx hZ hby hown target k => XS.lconst X.here hx rfl (hb hby hd) k
theorem s_aconstNull  (hd : decode bytes pc = .ok (.aconst_null, 1)) : Sim l Z K ρ own mn bytes ml R (pc, L, S, A, c, n) (pc + 1, L, .null :: S, A, c, n) :=
  Sim.pure rfl fun p e s m args below meth cd T locs X hx hZ hby hown target k => XS.aconstNull X.here hx rfl (hb hby hd) k
theorem s_ldc {i : Nat} {z : Int32} (w : (Jvm.Cond.constant own i z).before a0 Z = true) (hd : decode bytes pc = .ok (.ldc i, 2)) : Sim l Z K ρ own mn bytes ml R (pc, L, S, A, c, n) (pc + 2, L, .int z :: S, A, c, n) :=
  Sim.pure rfl fun p e s m args below meth cd T locs X hx hZ hby hown target k => X.ldcInt hx hown (mvT hZ w) (g := oF ρ m (pc, L, S, A, c, n)) rfl (hb hby hd) target k
theorem s_ldcw {i : Nat} {z : Int32} (w : (Jvm.Cond.constant own i z).before a0 Z = true) (hd : decode bytes pc = .ok (.ldc_w i, 3)) : Sim l Z K ρ own mn bytes ml R (pc, L, S, A, c, n) (pc + 3, L, .int z :: S, A, c, n) :=
  Sim.pure rfl fun p e s m args below meth cd T locs X hx hZ hby hown target k => X.ldcwInt hx hown (mvT hZ w) (g := oF ρ m (pc, L, S, A, c, n)) rfl (hb hby hd) target k
theorem s_ldc2 {i : Nat} {z : Int64} (w : (Jvm.Cond.constantLong own i z).before a0 Z = true) (hd : decode bytes pc = .ok (.ldc2_w i, 3)) : Sim l Z K ρ own mn bytes ml R (pc, L, S, A, c, n) (pc + 3, L, .long z :: S, A, c, n) :=
  Sim.pure rfl fun p e s m args below meth cd T locs X hx hZ hby hown target k => X.ldc2Long hx hown (mvT hZ w) (g := oF ρ m (pc, L, S, A, c, n)) rfl (hb hby hd) target k
def jushr (x y : Int32) : Int32 := (x.toUInt32 >>> (y &&& 31).toUInt32).toInt32
def jshl (x y : Int32) : Int32 := x <<< (y &&& 31)
def jshr (x y : Int32) : Int32 := x >>> (y &&& 31)
def jushrL (x : Int64) (y : Int32) : Int64 := (x.toUInt64 >>> (y &&& 0x3f).toInt64.toUInt64).toInt64
def jshlL (x : Int64) (y : Int32) : Int64 := x <<< (y &&& 0x3f).toInt64
def jshrL (x : Int64) (y : Int32) : Int64 := x >>> (y &&& 0x3f).toInt64
def jcmp (x y : Int64) : Int32 := if x > y then 1 else if x = y then 0 else -1
theorem s_iadd {x y : Int32} (hd : decode bytes pc = .ok (.iadd, 1)) : Sim l Z K ρ own mn bytes ml R (pc, L, .int y :: .int x :: S, A, c, n) (pc + 1, L, .int (x + y) :: S, A, c, n) :=
  Sim.pure rfl fun p e s m args below meth cd T locs X hx hZ hby hown target k => XS.iadd X.here hx rfl (hb hby hd) rfl k
theorem s_isub {x y : Int32} (hd : decode bytes pc = .ok (.isub, 1)) : Sim l Z K ρ own mn bytes ml R (pc, L, .int y :: .int x :: S, A, c, n) (pc + 1, L, .int (x - y) :: S, A, c, n) :=
  Sim.pure rfl fun p e s m args below meth cd T locs X hx hZ hby hown target k => XS.isub X.here hx rfl (hb hby hd) rfl k
theorem s_imul {x y : Int32} (hd : decode bytes pc = .ok (.imul, 1)) : Sim l Z K ρ own mn bytes ml R (pc, L, .int y :: .int x :: S, A, c, n) (pc + 1, L, .int (x * y) :: S, A, c, n) :=
  Sim.pure rfl fun p e s m args below meth cd T locs X hx hZ hby hown target k => XS.imul X.here hx rfl (hb hby hd) rfl k
theorem s_iand {x y : Int32} (hd : decode bytes pc = .ok (.iand, 1)) : Sim l Z K ρ own mn bytes ml R (pc, L, .int y :: .int x :: S, A, c, n) (pc + 1, L, .int (x &&& y) :: S, A, c, n) :=
  Sim.pure rfl fun p e s m args below meth cd T locs X hx hZ hby hown target k => XS.iand X.here hx rfl (hb hby hd) rfl k
theorem s_ior {x y : Int32} (hd : decode bytes pc = .ok (.ior, 1)) : Sim l Z K ρ own mn bytes ml R (pc, L, .int y :: .int x :: S, A, c, n) (pc + 1, L, .int (x ||| y) :: S, A, c, n) :=
  Sim.pure rfl fun p e s m args below meth cd T locs X hx hZ hby hown target k => XS.ior X.here hx rfl (hb hby hd) rfl k
theorem s_ixor {x y : Int32} (hd : decode bytes pc = .ok (.ixor, 1)) : Sim l Z K ρ own mn bytes ml R (pc, L, .int y :: .int x :: S, A, c, n) (pc + 1, L, .int (x ^^^ y) :: S, A, c, n) :=
  Sim.pure rfl fun p e s m args below meth cd T locs X hx hZ hby hown target k => XS.ixor X.here hx rfl (hb hby hd) rfl k
theorem s_ishl {x y : Int32} (hd : decode bytes pc = .ok (.ishl, 1)) : Sim l Z K ρ own mn bytes ml R (pc, L, .int y :: .int x :: S, A, c, n) (pc + 1, L, .int (jshl x y) :: S, A, c, n) :=
  Sim.pure rfl fun p e s m args below meth cd T locs X hx hZ hby hown target k => XS.ishl X.here hx rfl (hb hby hd) rfl k
theorem s_ishr {x y : Int32} (hd : decode bytes pc = .ok (.ishr, 1)) : Sim l Z K ρ own mn bytes ml R (pc, L, .int y :: .int x :: S, A, c, n) (pc + 1, L, .int (jshr x y) :: S, A, c, n) :=
  Sim.pure rfl fun p e s m args below meth cd T locs X hx hZ hby hown target k => XS.ishr X.here hx rfl (hb hby hd) rfl k
theorem s_iushr {x y : Int32} (hd : decode bytes pc = .ok (.iushr, 1)) : Sim l Z K ρ own mn bytes ml R (pc, L, .int y :: .int x :: S, A, c, n) (pc + 1, L, .int (jushr x y) :: S, A, c, n) :=
  Sim.pure rfl fun p e s m args below meth cd T locs X hx hZ hby hown target k => XS.iushr X.here hx rfl (hb hby hd) rfl k
theorem s_ladd {x y : Int64} (hd : decode bytes pc = .ok (.ladd, 1)) : Sim l Z K ρ own mn bytes ml R (pc, L, .long y :: .long x :: S, A, c, n) (pc + 1, L, .long (x + y) :: S, A, c, n) :=
  Sim.pure rfl fun p e s m args below meth cd T locs X hx hZ hby hown target k => XS.ladd X.here hx rfl (hb hby hd) rfl k
theorem s_lsub {x y : Int64} (hd : decode bytes pc = .ok (.lsub, 1)) : Sim l Z K ρ own mn bytes ml R (pc, L, .long y :: .long x :: S, A, c, n) (pc + 1, L, .long (x - y) :: S, A, c, n) :=
  Sim.pure rfl fun p e s m args below meth cd T locs X hx hZ hby hown target k => XS.lsub X.here hx rfl (hb hby hd) rfl k
theorem s_lmul {x y : Int64} (hd : decode bytes pc = .ok (.lmul, 1)) : Sim l Z K ρ own mn bytes ml R (pc, L, .long y :: .long x :: S, A, c, n) (pc + 1, L, .long (x * y) :: S, A, c, n) :=
  Sim.pure rfl fun p e s m args below meth cd T locs X hx hZ hby hown target k => XS.lmul X.here hx rfl (hb hby hd) rfl k
theorem s_land {x y : Int64} (hd : decode bytes pc = .ok (.land, 1)) : Sim l Z K ρ own mn bytes ml R (pc, L, .long y :: .long x :: S, A, c, n) (pc + 1, L, .long (x &&& y) :: S, A, c, n) :=
  Sim.pure rfl fun p e s m args below meth cd T locs X hx hZ hby hown target k => XS.land X.here hx rfl (hb hby hd) rfl k
theorem s_lor {x y : Int64} (hd : decode bytes pc = .ok (.lor, 1)) : Sim l Z K ρ own mn bytes ml R (pc, L, .long y :: .long x :: S, A, c, n) (pc + 1, L, .long (x ||| y) :: S, A, c, n) :=
  Sim.pure rfl fun p e s m args below meth cd T locs X hx hZ hby hown target k => XS.lor X.here hx rfl (hb hby hd) rfl k
theorem s_lxor {x y : Int64} (hd : decode bytes pc = .ok (.lxor, 1)) : Sim l Z K ρ own mn bytes ml R (pc, L, .long y :: .long x :: S, A, c, n) (pc + 1, L, .long (x ^^^ y) :: S, A, c, n) :=
  Sim.pure rfl fun p e s m args below meth cd T locs X hx hZ hby hown target k => XS.lxor X.here hx rfl (hb hby hd) rfl k
theorem s_lshl {x : Int64} {y : Int32} (hd : decode bytes pc = .ok (.lshl, 1)) : Sim l Z K ρ own mn bytes ml R (pc, L, .int y :: .long x :: S, A, c, n) (pc + 1, L, .long (jshlL x y) :: S, A, c, n) :=
  Sim.pure rfl fun p e s m args below meth cd T locs X hx hZ hby hown target k => XS.lshl X.here hx rfl (hb hby hd) rfl k
theorem s_lshr {x : Int64} {y : Int32} (hd : decode bytes pc = .ok (.lshr, 1)) : Sim l Z K ρ own mn bytes ml R (pc, L, .int y :: .long x :: S, A, c, n) (pc + 1, L, .long (jshrL x y) :: S, A, c, n) :=
  Sim.pure rfl fun p e s m args below meth cd T locs X hx hZ hby hown target k => XS.lshr X.here hx rfl (hb hby hd) rfl k
theorem s_lushr {x : Int64} {y : Int32} (hd : decode bytes pc = .ok (.lushr, 1)) : Sim l Z K ρ own mn bytes ml R (pc, L, .int y :: .long x :: S, A, c, n) (pc + 1, L, .long (jushrL x y) :: S, A, c, n) :=
  Sim.pure rfl fun p e s m args below meth cd T locs X hx hZ hby hown target k => XS.lushr X.here hx rfl (hb hby hd) rfl k
theorem s_lcmp {x y : Int64} (hd : decode bytes pc = .ok (.lcmp, 1)) : Sim l Z K ρ own mn bytes ml R (pc, L, .long y :: .long x :: S, A, c, n) (pc + 1, L, .int (jcmp x y) :: S, A, c, n) :=
  Sim.pure rfl fun p e s m args below meth cd T locs X hx hZ hby hown target k => XS.lcmp X.here hx rfl (hb hby hd) rfl k
theorem s_ineg {x : Int32} (hd : decode bytes pc = .ok (.ineg, 1)) : Sim l Z K ρ own mn bytes ml R (pc, L, .int x :: S, A, c, n) (pc + 1, L, .int (-x) :: S, A, c, n) :=
  Sim.pure rfl fun p e s m args below meth cd T locs X hx hZ hby hown target k => XS.ineg X.here hx rfl (hb hby hd) rfl k
theorem s_lneg {x : Int64} (hd : decode bytes pc = .ok (.lneg, 1)) : Sim l Z K ρ own mn bytes ml R (pc, L, .long x :: S, A, c, n) (pc + 1, L, .long (-x) :: S, A, c, n) :=
  Sim.pure rfl fun p e s m args below meth cd T locs X hx hZ hby hown target k => XS.lneg X.here hx rfl (hb hby hd) rfl k
theorem s_i2l {x : Int32} (hd : decode bytes pc = .ok (.i2l, 1)) : Sim l Z K ρ own mn bytes ml R (pc, L, .int x :: S, A, c, n) (pc + 1, L, .long (x.toInt64) :: S, A, c, n) :=
  Sim.pure rfl fun p e s m args below meth cd T locs X hx hZ hby hown target k => XS.i2l X.here hx rfl (hb hby hd) rfl k
theorem s_l2i {x : Int64} (hd : decode bytes pc = .ok (.l2i, 1)) : Sim l Z K ρ own mn bytes ml R (pc, L, .long x :: S, A, c, n) (pc + 1, L, .int (x.toInt32) :: S, A, c, n) :=
  Sim.pure rfl fun p e s m args below meth cd T locs X hx hZ hby hown target k => XS.l2i X.here hx rfl (hb hby hd) rfl k
theorem s_i2b {x : Int32} (hd : decode bytes pc = .ok (.i2b, 1)) : Sim l Z K ρ own mn bytes ml R (pc, L, .int x :: S, A, c, n) (pc + 1, L, .int (x.toInt8.toInt32) :: S, A, c, n) :=
  Sim.pure rfl fun p e s m args below meth cd T locs X hx hZ hby hown target k => XS.i2b X.here hx rfl (hb hby hd) rfl k
theorem s_i2s {x : Int32} (hd : decode bytes pc = .ok (.i2s, 1)) : Sim l Z K ρ own mn bytes ml R (pc, L, .int x :: S, A, c, n) (pc + 1, L, .int (x.toInt16.toInt32) :: S, A, c, n) :=
  Sim.pure rfl fun p e s m args below meth cd T locs X hx hZ hby hown target k => XS.i2s X.here hx rfl (hb hby hd) rfl k
theorem s_i2c {x : Int32} (hd : decode bytes pc = .ok (.i2c, 1)) : Sim l Z K ρ own mn bytes ml R (pc, L, .int x :: S, A, c, n) (pc + 1, L, .int (x.toUInt32.toUInt16.toUInt32.toInt32) :: S, A, c, n) :=
  Sim.pure rfl fun p e s m args below meth cd T locs X hx hZ hby hown target k => XS.i2c X.here hx rfl (hb hby hd) rfl k
theorem s_idiv {x y : Int32} (hd : decode bytes pc = .ok (.idiv, 1)) (hy : y ≠ 0) : Sim l Z K ρ own mn bytes ml R (pc, L, .int y :: .int x :: S, A, c, n) (pc + 1, L, .int (x / y) :: S, A, c, n) :=
  Sim.pure rfl fun p e s m args below meth cd T locs X hx hZ hby hown target k => XS.idiv X.here hx rfl (hb hby hd) rfl hy k
theorem s_irem {x y : Int32} (hd : decode bytes pc = .ok (.irem, 1)) (hy : y ≠ 0) : Sim l Z K ρ own mn bytes ml R (pc, L, .int y :: .int x :: S, A, c, n) (pc + 1, L, .int (x % y) :: S, A, c, n) :=
  Sim.pure rfl fun p e s m args below meth cd T locs X hx hZ hby hown target k => iremM X hx rfl (hb hby hd) rfl hy k
theorem s_ldiv {x y : Int64} (hd : decode bytes pc = .ok (.ldiv, 1)) (hy : y ≠ 0) : Sim l Z K ρ own mn bytes ml R (pc, L, .long y :: .long x :: S, A, c, n) (pc + 1, L, .long (x / y) :: S, A, c, n) :=
  Sim.pure rfl fun p e s m args below meth cd T locs X hx hZ hby hown target k => XS.ldiv X.here hx rfl (hb hby hd) rfl hy k
theorem s_lrem {x y : Int64} (hd : decode bytes pc = .ok (.lrem, 1)) (hy : y ≠ 0) : Sim l Z K ρ own mn bytes ml R (pc, L, .long y :: .long x :: S, A, c, n) (pc + 1, L, .long (x % y) :: S, A, c, n) :=
  Sim.pure rfl fun p e s m args below meth cd T locs X hx hZ hby hown target k => XS.lrem X.here hx rfl (hb hby hd) rfl hy (by rw [lrem_mod x y]; exact k)
theorem s_dup {w : Value} (hd : decode bytes pc = .ok (.dup, 1)) (hc : w.category = 1) : Sim l Z K ρ own mn bytes ml R (pc, L, w :: S, A, c, n) (pc + 1, L, w :: w :: S, A, c, n) :=
  Sim.pure rfl fun p e s m args below meth cd T locs X hx hZ hby hown target k => XS.dup X.here hx rfl (hb hby hd) rfl ((ov_cat ρ w).trans hc) k
theorem s_pop {w : Value} (hd : decode bytes pc = .ok (.pop, 1)) (hc : w.category = 1) : Sim l Z K ρ own mn bytes ml R (pc, L, w :: S, A, c, n) (pc + 1, L, S, A, c, n) :=
  Sim.pure rfl fun p e s m args below meth cd T locs X hx hZ hby hown target k => XS.pop X.here hx rfl (hb hby hd) rfl ((ov_cat ρ w).trans hc) k
theorem s_dupX1 {w u : Value} (hd : decode bytes pc = .ok (.dup_x1, 1)) (hc : w.category = 1) (hc' : u.category = 1) : Sim l Z K ρ own mn bytes ml R (pc, L, w :: u :: S, A, c, n) (pc + 1, L, w :: u :: w :: S, A, c, n) :=
  Sim.pure rfl fun p e s m args below meth cd T locs X hx hZ hby hown target k => XS.dupX1 X.here hx rfl (hb hby hd) rfl ((ov_cat ρ w).trans hc) ((ov_cat ρ u).trans hc') k
theorem s_goto {o : Int} (hd : decode bytes pc = .ok (.goto o, 3)) (ho : 0 ≤ (pc : Int) + o) (hp : ((pc : Int) + o).toNat = pc') : Sim l Z K ρ own mn bytes ml R (pc, L, S, A, c, n) (pc', L, S, A, c, n) :=
  Sim.pure rfl fun p e s m args below meth cd T locs X hx hZ hby hown target k => XS.goto X.here hx rfl rfl (hb hby hd) ho hp k
theorem s_icmp_eq_t {o : Int} {x y : Int32} (hd : decode bytes pc = .ok (.if_icmp .eq o, 3)) (h : x = y) (ho : 0 ≤ (pc : Int) + o) (hp : ((pc : Int) + o).toNat = pc') : Sim l Z K ρ own mn bytes ml R (pc, L, .int y :: .int x :: S, A, c, n) (pc', L, S, A, c, n) :=
  Sim.pure rfl fun p e s m args below meth cd T locs X hx hZ hby hown target k => XS.icmpYes X.here hx rfl rfl (hb hby hd) rfl (teq h).1 ho hp k
theorem s_icmp_eq_f {o : Int} {x y : Int32} (hd : decode bytes pc = .ok (.if_icmp .eq o, 3)) (h : ¬ x = y) : Sim l Z K ρ own mn bytes ml R (pc, L, .int y :: .int x :: S, A, c, n) (pc + 3, L, S, A, c, n) :=
  Sim.pure rfl fun p e s m args below meth cd T locs X hx hZ hby hown target k => XS.icmpNo X.here hx rfl (hb hby hd) rfl (feq h).1 k
theorem s_if_eq_t {o : Int} {x : Int32} (hd : decode bytes pc = .ok (.ifCond .eq o, 3)) (h : x = 0) (ho : 0 ≤ (pc : Int) + o) (hp : ((pc : Int) + o).toNat = pc') : Sim l Z K ρ own mn bytes ml R (pc, L, .int x :: S, A, c, n) (pc', L, S, A, c, n) :=
  Sim.pure rfl fun p e s m args below meth cd T locs X hx hZ hby hown target k => XS.ifYes X.here hx rfl rfl (hb hby hd) rfl ((if0 _ _).trans (teq h).1) ho hp k
theorem s_if_eq_f {o : Int} {x : Int32} (hd : decode bytes pc = .ok (.ifCond .eq o, 3)) (h : ¬ x = 0) : Sim l Z K ρ own mn bytes ml R (pc, L, .int x :: S, A, c, n) (pc + 3, L, S, A, c, n) :=
  Sim.pure rfl fun p e s m args below meth cd T locs X hx hZ hby hown target k => XS.ifNo X.here hx rfl (hb hby hd) rfl ((if0 _ _).trans (feq h).1) k
theorem Ends.icmp_eq {o : Int} {x y : Int32} (hd : decode bytes pc = .ok (.if_icmp .eq o, 3)) (ho : 0 ≤ (pc : Int) + o) (hp : ((pc : Int) + o).toNat = pc') (ht : x = y → Ends l Z K ρ own mn bytes ml R ret (pc', L, S, A, c, n) v A') (hf : ¬ x = y → Ends l Z K ρ own mn bytes ml R ret (pc + 3, L, S, A, c, n) v A') : Ends l Z K ρ own mn bytes ml R ret (pc, L, .int y :: .int x :: S, A, c, n) v A' := by
  by_cases h : x = y
  · exact Ends.st (s_icmp_eq_t hd h ho hp) (ht h)
  · exact Ends.st (s_icmp_eq_f hd h) (hf h)
theorem Ends.if_eq {o : Int} {x : Int32} (hd : decode bytes pc = .ok (.ifCond .eq o, 3)) (ho : 0 ≤ (pc : Int) + o) (hp : ((pc : Int) + o).toNat = pc') (ht : x = 0 → Ends l Z K ρ own mn bytes ml R ret (pc', L, S, A, c, n) v A') (hf : ¬ x = 0 → Ends l Z K ρ own mn bytes ml R ret (pc + 3, L, S, A, c, n) v A') : Ends l Z K ρ own mn bytes ml R ret (pc, L, .int x :: S, A, c, n) v A' := by
  by_cases h : x = 0
  · exact Ends.st (s_if_eq_t hd h ho hp) (ht h)
  · exact Ends.st (s_if_eq_f hd h) (hf h)
theorem Sim.icmp_eq {q : oS} {o : Int} {x y : Int32} (hd : decode bytes pc = .ok (.if_icmp .eq o, 3)) (ho : 0 ≤ (pc : Int) + o) (hp : ((pc : Int) + o).toNat = pc') (ht : x = y → Sim l Z K ρ own mn bytes ml R (pc', L, S, A, c, n) q) (hf : ¬ x = y → Sim l Z K ρ own mn bytes ml R (pc + 3, L, S, A, c, n) q) : Sim l Z K ρ own mn bytes ml R (pc, L, .int y :: .int x :: S, A, c, n) q := by
  by_cases h : x = y
  · exact Sim.tr (s_icmp_eq_t hd h ho hp) (ht h)
  · exact Sim.tr (s_icmp_eq_f hd h) (hf h)
theorem Sim.if_eq {q : oS} {o : Int} {x : Int32} (hd : decode bytes pc = .ok (.ifCond .eq o, 3)) (ho : 0 ≤ (pc : Int) + o) (hp : ((pc : Int) + o).toNat = pc') (ht : x = 0 → Sim l Z K ρ own mn bytes ml R (pc', L, S, A, c, n) q) (hf : ¬ x = 0 → Sim l Z K ρ own mn bytes ml R (pc + 3, L, S, A, c, n) q) : Sim l Z K ρ own mn bytes ml R (pc, L, .int x :: S, A, c, n) q := by
  by_cases h : x = 0
  · exact Sim.tr (s_if_eq_t hd h ho hp) (ht h)
  · exact Sim.tr (s_if_eq_f hd h) (hf h)
theorem EndsE.icmp_eq {o : Int} {x y : Int32} (hd : decode bytes pc = .ok (.if_icmp .eq o, 3)) (ho : 0 ≤ (pc : Int) + o) (hp : ((pc : Int) + o).toNat = pc') (ht : x = y → EndsE l Z K ρ own mn bytes ml R ret (pc', L, S, A, c, n) v) (hf : ¬ x = y → EndsE l Z K ρ own mn bytes ml R ret (pc + 3, L, S, A, c, n) v) : EndsE l Z K ρ own mn bytes ml R ret (pc, L, .int y :: .int x :: S, A, c, n) v := by
  by_cases h : x = y
  · exact EndsE.st (s_icmp_eq_t hd h ho hp) (ht h)
  · exact EndsE.st (s_icmp_eq_f hd h) (hf h)
theorem EndsE.if_eq {o : Int} {x : Int32} (hd : decode bytes pc = .ok (.ifCond .eq o, 3)) (ho : 0 ≤ (pc : Int) + o) (hp : ((pc : Int) + o).toNat = pc') (ht : x = 0 → EndsE l Z K ρ own mn bytes ml R ret (pc', L, S, A, c, n) v) (hf : ¬ x = 0 → EndsE l Z K ρ own mn bytes ml R ret (pc + 3, L, S, A, c, n) v) : EndsE l Z K ρ own mn bytes ml R ret (pc, L, .int x :: S, A, c, n) v := by
  by_cases h : x = 0
  · exact EndsE.st (s_if_eq_t hd h ho hp) (ht h)
  · exact EndsE.st (s_if_eq_f hd h) (hf h)
theorem s_icmp_ne_t {o : Int} {x y : Int32} (hd : decode bytes pc = .ok (.if_icmp .ne o, 3)) (h : ¬ x = y) (ho : 0 ≤ (pc : Int) + o) (hp : ((pc : Int) + o).toNat = pc') : Sim l Z K ρ own mn bytes ml R (pc, L, .int y :: .int x :: S, A, c, n) (pc', L, S, A, c, n) :=
  Sim.pure rfl fun p e s m args below meth cd T locs X hx hZ hby hown target k => XS.icmpYes X.here hx rfl rfl (hb hby hd) rfl (feq h).2 ho hp k
theorem s_icmp_ne_f {o : Int} {x y : Int32} (hd : decode bytes pc = .ok (.if_icmp .ne o, 3)) (h : x = y) : Sim l Z K ρ own mn bytes ml R (pc, L, .int y :: .int x :: S, A, c, n) (pc + 3, L, S, A, c, n) :=
  Sim.pure rfl fun p e s m args below meth cd T locs X hx hZ hby hown target k => XS.icmpNo X.here hx rfl (hb hby hd) rfl (teq h).2 k
theorem s_if_ne_t {o : Int} {x : Int32} (hd : decode bytes pc = .ok (.ifCond .ne o, 3)) (h : ¬ x = 0) (ho : 0 ≤ (pc : Int) + o) (hp : ((pc : Int) + o).toNat = pc') : Sim l Z K ρ own mn bytes ml R (pc, L, .int x :: S, A, c, n) (pc', L, S, A, c, n) :=
  Sim.pure rfl fun p e s m args below meth cd T locs X hx hZ hby hown target k => XS.ifYes X.here hx rfl rfl (hb hby hd) rfl ((if0 _ _).trans (feq h).2) ho hp k
theorem s_if_ne_f {o : Int} {x : Int32} (hd : decode bytes pc = .ok (.ifCond .ne o, 3)) (h : x = 0) : Sim l Z K ρ own mn bytes ml R (pc, L, .int x :: S, A, c, n) (pc + 3, L, S, A, c, n) :=
  Sim.pure rfl fun p e s m args below meth cd T locs X hx hZ hby hown target k => XS.ifNo X.here hx rfl (hb hby hd) rfl ((if0 _ _).trans (teq h).2) k
theorem Ends.icmp_ne {o : Int} {x y : Int32} (hd : decode bytes pc = .ok (.if_icmp .ne o, 3)) (ho : 0 ≤ (pc : Int) + o) (hp : ((pc : Int) + o).toNat = pc') (ht : ¬ x = y → Ends l Z K ρ own mn bytes ml R ret (pc', L, S, A, c, n) v A') (hf : x = y → Ends l Z K ρ own mn bytes ml R ret (pc + 3, L, S, A, c, n) v A') : Ends l Z K ρ own mn bytes ml R ret (pc, L, .int y :: .int x :: S, A, c, n) v A' := by
  by_cases h : ¬ x = y
  · exact Ends.st (s_icmp_ne_t hd h ho hp) (ht h)
  · exact Ends.st (s_icmp_ne_f hd (Classical.not_not.mp h)) (hf (Classical.not_not.mp h))
theorem Ends.if_ne {o : Int} {x : Int32} (hd : decode bytes pc = .ok (.ifCond .ne o, 3)) (ho : 0 ≤ (pc : Int) + o) (hp : ((pc : Int) + o).toNat = pc') (ht : ¬ x = 0 → Ends l Z K ρ own mn bytes ml R ret (pc', L, S, A, c, n) v A') (hf : x = 0 → Ends l Z K ρ own mn bytes ml R ret (pc + 3, L, S, A, c, n) v A') : Ends l Z K ρ own mn bytes ml R ret (pc, L, .int x :: S, A, c, n) v A' := by
  by_cases h : ¬ x = 0
  · exact Ends.st (s_if_ne_t hd h ho hp) (ht h)
  · exact Ends.st (s_if_ne_f hd (Classical.not_not.mp h)) (hf (Classical.not_not.mp h))
theorem Sim.icmp_ne {q : oS} {o : Int} {x y : Int32} (hd : decode bytes pc = .ok (.if_icmp .ne o, 3)) (ho : 0 ≤ (pc : Int) + o) (hp : ((pc : Int) + o).toNat = pc') (ht : ¬ x = y → Sim l Z K ρ own mn bytes ml R (pc', L, S, A, c, n) q) (hf : x = y → Sim l Z K ρ own mn bytes ml R (pc + 3, L, S, A, c, n) q) : Sim l Z K ρ own mn bytes ml R (pc, L, .int y :: .int x :: S, A, c, n) q := by
  by_cases h : ¬ x = y
  · exact Sim.tr (s_icmp_ne_t hd h ho hp) (ht h)
  · exact Sim.tr (s_icmp_ne_f hd (Classical.not_not.mp h)) (hf (Classical.not_not.mp h))
theorem Sim.if_ne {q : oS} {o : Int} {x : Int32} (hd : decode bytes pc = .ok (.ifCond .ne o, 3)) (ho : 0 ≤ (pc : Int) + o) (hp : ((pc : Int) + o).toNat = pc') (ht : ¬ x = 0 → Sim l Z K ρ own mn bytes ml R (pc', L, S, A, c, n) q) (hf : x = 0 → Sim l Z K ρ own mn bytes ml R (pc + 3, L, S, A, c, n) q) : Sim l Z K ρ own mn bytes ml R (pc, L, .int x :: S, A, c, n) q := by
  by_cases h : ¬ x = 0
  · exact Sim.tr (s_if_ne_t hd h ho hp) (ht h)
  · exact Sim.tr (s_if_ne_f hd (Classical.not_not.mp h)) (hf (Classical.not_not.mp h))
theorem EndsE.icmp_ne {o : Int} {x y : Int32} (hd : decode bytes pc = .ok (.if_icmp .ne o, 3)) (ho : 0 ≤ (pc : Int) + o) (hp : ((pc : Int) + o).toNat = pc') (ht : ¬ x = y → EndsE l Z K ρ own mn bytes ml R ret (pc', L, S, A, c, n) v) (hf : x = y → EndsE l Z K ρ own mn bytes ml R ret (pc + 3, L, S, A, c, n) v) : EndsE l Z K ρ own mn bytes ml R ret (pc, L, .int y :: .int x :: S, A, c, n) v := by
  by_cases h : ¬ x = y
  · exact EndsE.st (s_icmp_ne_t hd h ho hp) (ht h)
  · exact EndsE.st (s_icmp_ne_f hd (Classical.not_not.mp h)) (hf (Classical.not_not.mp h))
theorem EndsE.if_ne {o : Int} {x : Int32} (hd : decode bytes pc = .ok (.ifCond .ne o, 3)) (ho : 0 ≤ (pc : Int) + o) (hp : ((pc : Int) + o).toNat = pc') (ht : ¬ x = 0 → EndsE l Z K ρ own mn bytes ml R ret (pc', L, S, A, c, n) v) (hf : x = 0 → EndsE l Z K ρ own mn bytes ml R ret (pc + 3, L, S, A, c, n) v) : EndsE l Z K ρ own mn bytes ml R ret (pc, L, .int x :: S, A, c, n) v := by
  by_cases h : ¬ x = 0
  · exact EndsE.st (s_if_ne_t hd h ho hp) (ht h)
  · exact EndsE.st (s_if_ne_f hd (Classical.not_not.mp h)) (hf (Classical.not_not.mp h))
theorem s_icmp_lt_t {o : Int} {x y : Int32} (hd : decode bytes pc = .ok (.if_icmp .lt o, 3)) (h : x < y) (ho : 0 ≤ (pc : Int) + o) (hp : ((pc : Int) + o).toNat = pc') : Sim l Z K ρ own mn bytes ml R (pc, L, .int y :: .int x :: S, A, c, n) (pc', L, S, A, c, n) :=
  Sim.pure rfl fun p e s m args below meth cd T locs X hx hZ hby hown target k => XS.icmpYes X.here hx rfl rfl (hb hby hd) rfl (tlt h).1 ho hp k
theorem s_icmp_lt_f {o : Int} {x y : Int32} (hd : decode bytes pc = .ok (.if_icmp .lt o, 3)) (h : ¬ x < y) : Sim l Z K ρ own mn bytes ml R (pc, L, .int y :: .int x :: S, A, c, n) (pc + 3, L, S, A, c, n) :=
  Sim.pure rfl fun p e s m args below meth cd T locs X hx hZ hby hown target k => XS.icmpNo X.here hx rfl (hb hby hd) rfl (flt h).1 k
theorem s_if_lt_t {o : Int} {x : Int32} (hd : decode bytes pc = .ok (.ifCond .lt o, 3)) (h : x < 0) (ho : 0 ≤ (pc : Int) + o) (hp : ((pc : Int) + o).toNat = pc') : Sim l Z K ρ own mn bytes ml R (pc, L, .int x :: S, A, c, n) (pc', L, S, A, c, n) :=
  Sim.pure rfl fun p e s m args below meth cd T locs X hx hZ hby hown target k => XS.ifYes X.here hx rfl rfl (hb hby hd) rfl ((if0 _ _).trans (tlt h).1) ho hp k
theorem s_if_lt_f {o : Int} {x : Int32} (hd : decode bytes pc = .ok (.ifCond .lt o, 3)) (h : ¬ x < 0) : Sim l Z K ρ own mn bytes ml R (pc, L, .int x :: S, A, c, n) (pc + 3, L, S, A, c, n) :=
  Sim.pure rfl fun p e s m args below meth cd T locs X hx hZ hby hown target k => XS.ifNo X.here hx rfl (hb hby hd) rfl ((if0 _ _).trans (flt h).1) k
theorem Ends.icmp_lt {o : Int} {x y : Int32} (hd : decode bytes pc = .ok (.if_icmp .lt o, 3)) (ho : 0 ≤ (pc : Int) + o) (hp : ((pc : Int) + o).toNat = pc') (ht : x < y → Ends l Z K ρ own mn bytes ml R ret (pc', L, S, A, c, n) v A') (hf : ¬ x < y → Ends l Z K ρ own mn bytes ml R ret (pc + 3, L, S, A, c, n) v A') : Ends l Z K ρ own mn bytes ml R ret (pc, L, .int y :: .int x :: S, A, c, n) v A' := by
  by_cases h : x < y
  · exact Ends.st (s_icmp_lt_t hd h ho hp) (ht h)
  · exact Ends.st (s_icmp_lt_f hd h) (hf h)
theorem Ends.if_lt {o : Int} {x : Int32} (hd : decode bytes pc = .ok (.ifCond .lt o, 3)) (ho : 0 ≤ (pc : Int) + o) (hp : ((pc : Int) + o).toNat = pc') (ht : x < 0 → Ends l Z K ρ own mn bytes ml R ret (pc', L, S, A, c, n) v A') (hf : ¬ x < 0 → Ends l Z K ρ own mn bytes ml R ret (pc + 3, L, S, A, c, n) v A') : Ends l Z K ρ own mn bytes ml R ret (pc, L, .int x :: S, A, c, n) v A' := by
  by_cases h : x < 0
  · exact Ends.st (s_if_lt_t hd h ho hp) (ht h)
  · exact Ends.st (s_if_lt_f hd h) (hf h)
theorem Sim.icmp_lt {q : oS} {o : Int} {x y : Int32} (hd : decode bytes pc = .ok (.if_icmp .lt o, 3)) (ho : 0 ≤ (pc : Int) + o) (hp : ((pc : Int) + o).toNat = pc') (ht : x < y → Sim l Z K ρ own mn bytes ml R (pc', L, S, A, c, n) q) (hf : ¬ x < y → Sim l Z K ρ own mn bytes ml R (pc + 3, L, S, A, c, n) q) : Sim l Z K ρ own mn bytes ml R (pc, L, .int y :: .int x :: S, A, c, n) q := by
  by_cases h : x < y
  · exact Sim.tr (s_icmp_lt_t hd h ho hp) (ht h)
  · exact Sim.tr (s_icmp_lt_f hd h) (hf h)
theorem Sim.if_lt {q : oS} {o : Int} {x : Int32} (hd : decode bytes pc = .ok (.ifCond .lt o, 3)) (ho : 0 ≤ (pc : Int) + o) (hp : ((pc : Int) + o).toNat = pc') (ht : x < 0 → Sim l Z K ρ own mn bytes ml R (pc', L, S, A, c, n) q) (hf : ¬ x < 0 → Sim l Z K ρ own mn bytes ml R (pc + 3, L, S, A, c, n) q) : Sim l Z K ρ own mn bytes ml R (pc, L, .int x :: S, A, c, n) q := by
  by_cases h : x < 0
  · exact Sim.tr (s_if_lt_t hd h ho hp) (ht h)
  · exact Sim.tr (s_if_lt_f hd h) (hf h)
theorem EndsE.icmp_lt {o : Int} {x y : Int32} (hd : decode bytes pc = .ok (.if_icmp .lt o, 3)) (ho : 0 ≤ (pc : Int) + o) (hp : ((pc : Int) + o).toNat = pc') (ht : x < y → EndsE l Z K ρ own mn bytes ml R ret (pc', L, S, A, c, n) v) (hf : ¬ x < y → EndsE l Z K ρ own mn bytes ml R ret (pc + 3, L, S, A, c, n) v) : EndsE l Z K ρ own mn bytes ml R ret (pc, L, .int y :: .int x :: S, A, c, n) v := by
  by_cases h : x < y
  · exact EndsE.st (s_icmp_lt_t hd h ho hp) (ht h)
  · exact EndsE.st (s_icmp_lt_f hd h) (hf h)
theorem EndsE.if_lt {o : Int} {x : Int32} (hd : decode bytes pc = .ok (.ifCond .lt o, 3)) (ho : 0 ≤ (pc : Int) + o) (hp : ((pc : Int) + o).toNat = pc') (ht : x < 0 → EndsE l Z K ρ own mn bytes ml R ret (pc', L, S, A, c, n) v) (hf : ¬ x < 0 → EndsE l Z K ρ own mn bytes ml R ret (pc + 3, L, S, A, c, n) v) : EndsE l Z K ρ own mn bytes ml R ret (pc, L, .int x :: S, A, c, n) v := by
  by_cases h : x < 0
  · exact EndsE.st (s_if_lt_t hd h ho hp) (ht h)
  · exact EndsE.st (s_if_lt_f hd h) (hf h)
theorem s_icmp_ge_t {o : Int} {x y : Int32} (hd : decode bytes pc = .ok (.if_icmp .ge o, 3)) (h : ¬ x < y) (ho : 0 ≤ (pc : Int) + o) (hp : ((pc : Int) + o).toNat = pc') : Sim l Z K ρ own mn bytes ml R (pc, L, .int y :: .int x :: S, A, c, n) (pc', L, S, A, c, n) :=
  Sim.pure rfl fun p e s m args below meth cd T locs X hx hZ hby hown target k => XS.icmpYes X.here hx rfl rfl (hb hby hd) rfl (flt h).2.1 ho hp k
theorem s_icmp_ge_f {o : Int} {x y : Int32} (hd : decode bytes pc = .ok (.if_icmp .ge o, 3)) (h : x < y) : Sim l Z K ρ own mn bytes ml R (pc, L, .int y :: .int x :: S, A, c, n) (pc + 3, L, S, A, c, n) :=
  Sim.pure rfl fun p e s m args below meth cd T locs X hx hZ hby hown target k => XS.icmpNo X.here hx rfl (hb hby hd) rfl (tlt h).2.1 k
theorem s_if_ge_t {o : Int} {x : Int32} (hd : decode bytes pc = .ok (.ifCond .ge o, 3)) (h : ¬ x < 0) (ho : 0 ≤ (pc : Int) + o) (hp : ((pc : Int) + o).toNat = pc') : Sim l Z K ρ own mn bytes ml R (pc, L, .int x :: S, A, c, n) (pc', L, S, A, c, n) :=
  Sim.pure rfl fun p e s m args below meth cd T locs X hx hZ hby hown target k => XS.ifYes X.here hx rfl rfl (hb hby hd) rfl ((if0 _ _).trans (flt h).2.1) ho hp k
theorem s_if_ge_f {o : Int} {x : Int32} (hd : decode bytes pc = .ok (.ifCond .ge o, 3)) (h : x < 0) : Sim l Z K ρ own mn bytes ml R (pc, L, .int x :: S, A, c, n) (pc + 3, L, S, A, c, n) :=
  Sim.pure rfl fun p e s m args below meth cd T locs X hx hZ hby hown target k => XS.ifNo X.here hx rfl (hb hby hd) rfl ((if0 _ _).trans (tlt h).2.1) k
theorem Ends.icmp_ge {o : Int} {x y : Int32} (hd : decode bytes pc = .ok (.if_icmp .ge o, 3)) (ho : 0 ≤ (pc : Int) + o) (hp : ((pc : Int) + o).toNat = pc') (ht : ¬ x < y → Ends l Z K ρ own mn bytes ml R ret (pc', L, S, A, c, n) v A') (hf : x < y → Ends l Z K ρ own mn bytes ml R ret (pc + 3, L, S, A, c, n) v A') : Ends l Z K ρ own mn bytes ml R ret (pc, L, .int y :: .int x :: S, A, c, n) v A' := by
  by_cases h : ¬ x < y
  · exact Ends.st (s_icmp_ge_t hd h ho hp) (ht h)
  · exact Ends.st (s_icmp_ge_f hd (Classical.not_not.mp h)) (hf (Classical.not_not.mp h))
theorem Ends.if_ge {o : Int} {x : Int32} (hd : decode bytes pc = .ok (.ifCond .ge o, 3)) (ho : 0 ≤ (pc : Int) + o) (hp : ((pc : Int) + o).toNat = pc') (ht : ¬ x < 0 → Ends l Z K ρ own mn bytes ml R ret (pc', L, S, A, c, n) v A') (hf : x < 0 → Ends l Z K ρ own mn bytes ml R ret (pc + 3, L, S, A, c, n) v A') : Ends l Z K ρ own mn bytes ml R ret (pc, L, .int x :: S, A, c, n) v A' := by
  by_cases h : ¬ x < 0
  · exact Ends.st (s_if_ge_t hd h ho hp) (ht h)
  · exact Ends.st (s_if_ge_f hd (Classical.not_not.mp h)) (hf (Classical.not_not.mp h))
theorem Sim.icmp_ge {q : oS} {o : Int} {x y : Int32} (hd : decode bytes pc = .ok (.if_icmp .ge o, 3)) (ho : 0 ≤ (pc : Int) + o) (hp : ((pc : Int) + o).toNat = pc') (ht : ¬ x < y → Sim l Z K ρ own mn bytes ml R (pc', L, S, A, c, n) q) (hf : x < y → Sim l Z K ρ own mn bytes ml R (pc + 3, L, S, A, c, n) q) : Sim l Z K ρ own mn bytes ml R (pc, L, .int y :: .int x :: S, A, c, n) q := by
  by_cases h : ¬ x < y
  · exact Sim.tr (s_icmp_ge_t hd h ho hp) (ht h)
  · exact Sim.tr (s_icmp_ge_f hd (Classical.not_not.mp h)) (hf (Classical.not_not.mp h))
theorem Sim.if_ge {q : oS} {o : Int} {x : Int32} (hd : decode bytes pc = .ok (.ifCond .ge o, 3)) (ho : 0 ≤ (pc : Int) + o) (hp : ((pc : Int) + o).toNat = pc') (ht : ¬ x < 0 → Sim l Z K ρ own mn bytes ml R (pc', L, S, A, c, n) q) (hf : x < 0 → Sim l Z K ρ own mn bytes ml R (pc + 3, L, S, A, c, n) q) : Sim l Z K ρ own mn bytes ml R (pc, L, .int x :: S, A, c, n) q := by
  by_cases h : ¬ x < 0
  · exact Sim.tr (s_if_ge_t hd h ho hp) (ht h)
  · exact Sim.tr (s_if_ge_f hd (Classical.not_not.mp h)) (hf (Classical.not_not.mp h))
theorem EndsE.icmp_ge {o : Int} {x y : Int32} (hd : decode bytes pc = .ok (.if_icmp .ge o, 3)) (ho : 0 ≤ (pc : Int) + o) (hp : ((pc : Int) + o).toNat = pc') (ht : ¬ x < y → EndsE l Z K ρ own mn bytes ml R ret (pc', L, S, A, c, n) v) (hf : x < y → EndsE l Z K ρ own mn bytes ml R ret (pc + 3, L, S, A, c, n) v) : EndsE l Z K ρ own mn bytes ml R ret (pc, L, .int y :: .int x :: S, A, c, n) v := by
  by_cases h : ¬ x < y
  · exact EndsE.st (s_icmp_ge_t hd h ho hp) (ht h)
  · exact EndsE.st (s_icmp_ge_f hd (Classical.not_not.mp h)) (hf (Classical.not_not.mp h))
theorem EndsE.if_ge {o : Int} {x : Int32} (hd : decode bytes pc = .ok (.ifCond .ge o, 3)) (ho : 0 ≤ (pc : Int) + o) (hp : ((pc : Int) + o).toNat = pc') (ht : ¬ x < 0 → EndsE l Z K ρ own mn bytes ml R ret (pc', L, S, A, c, n) v) (hf : x < 0 → EndsE l Z K ρ own mn bytes ml R ret (pc + 3, L, S, A, c, n) v) : EndsE l Z K ρ own mn bytes ml R ret (pc, L, .int x :: S, A, c, n) v := by
  by_cases h : ¬ x < 0
  · exact EndsE.st (s_if_ge_t hd h ho hp) (ht h)
  · exact EndsE.st (s_if_ge_f hd (Classical.not_not.mp h)) (hf (Classical.not_not.mp h))
theorem s_icmp_gt_t {o : Int} {x y : Int32} (hd : decode bytes pc = .ok (.if_icmp .gt o, 3)) (h : y < x) (ho : 0 ≤ (pc : Int) + o) (hp : ((pc : Int) + o).toNat = pc') : Sim l Z K ρ own mn bytes ml R (pc, L, .int y :: .int x :: S, A, c, n) (pc', L, S, A, c, n) :=
  Sim.pure rfl fun p e s m args below meth cd T locs X hx hZ hby hown target k => XS.icmpYes X.here hx rfl rfl (hb hby hd) rfl (tlt h).2.2.1 ho hp k
theorem s_icmp_gt_f {o : Int} {x y : Int32} (hd : decode bytes pc = .ok (.if_icmp .gt o, 3)) (h : ¬ y < x) : Sim l Z K ρ own mn bytes ml R (pc, L, .int y :: .int x :: S, A, c, n) (pc + 3, L, S, A, c, n) :=
  Sim.pure rfl fun p e s m args below meth cd T locs X hx hZ hby hown target k => XS.icmpNo X.here hx rfl (hb hby hd) rfl (flt h).2.2.1 k
theorem s_if_gt_t {o : Int} {x : Int32} (hd : decode bytes pc = .ok (.ifCond .gt o, 3)) (h : 0 < x) (ho : 0 ≤ (pc : Int) + o) (hp : ((pc : Int) + o).toNat = pc') : Sim l Z K ρ own mn bytes ml R (pc, L, .int x :: S, A, c, n) (pc', L, S, A, c, n) :=
  Sim.pure rfl fun p e s m args below meth cd T locs X hx hZ hby hown target k => XS.ifYes X.here hx rfl rfl (hb hby hd) rfl ((if0 _ _).trans (tlt h).2.2.1) ho hp k
theorem s_if_gt_f {o : Int} {x : Int32} (hd : decode bytes pc = .ok (.ifCond .gt o, 3)) (h : ¬ 0 < x) : Sim l Z K ρ own mn bytes ml R (pc, L, .int x :: S, A, c, n) (pc + 3, L, S, A, c, n) :=
  Sim.pure rfl fun p e s m args below meth cd T locs X hx hZ hby hown target k => XS.ifNo X.here hx rfl (hb hby hd) rfl ((if0 _ _).trans (flt h).2.2.1) k
theorem Ends.icmp_gt {o : Int} {x y : Int32} (hd : decode bytes pc = .ok (.if_icmp .gt o, 3)) (ho : 0 ≤ (pc : Int) + o) (hp : ((pc : Int) + o).toNat = pc') (ht : y < x → Ends l Z K ρ own mn bytes ml R ret (pc', L, S, A, c, n) v A') (hf : ¬ y < x → Ends l Z K ρ own mn bytes ml R ret (pc + 3, L, S, A, c, n) v A') : Ends l Z K ρ own mn bytes ml R ret (pc, L, .int y :: .int x :: S, A, c, n) v A' := by
  by_cases h : y < x
  · exact Ends.st (s_icmp_gt_t hd h ho hp) (ht h)
  · exact Ends.st (s_icmp_gt_f hd h) (hf h)
theorem Ends.if_gt {o : Int} {x : Int32} (hd : decode bytes pc = .ok (.ifCond .gt o, 3)) (ho : 0 ≤ (pc : Int) + o) (hp : ((pc : Int) + o).toNat = pc') (ht : 0 < x → Ends l Z K ρ own mn bytes ml R ret (pc', L, S, A, c, n) v A') (hf : ¬ 0 < x → Ends l Z K ρ own mn bytes ml R ret (pc + 3, L, S, A, c, n) v A') : Ends l Z K ρ own mn bytes ml R ret (pc, L, .int x :: S, A, c, n) v A' := by
  by_cases h : 0 < x
  · exact Ends.st (s_if_gt_t hd h ho hp) (ht h)
  · exact Ends.st (s_if_gt_f hd h) (hf h)
theorem Sim.icmp_gt {q : oS} {o : Int} {x y : Int32} (hd : decode bytes pc = .ok (.if_icmp .gt o, 3)) (ho : 0 ≤ (pc : Int) + o) (hp : ((pc : Int) + o).toNat = pc') (ht : y < x → Sim l Z K ρ own mn bytes ml R (pc', L, S, A, c, n) q) (hf : ¬ y < x → Sim l Z K ρ own mn bytes ml R (pc + 3, L, S, A, c, n) q) : Sim l Z K ρ own mn bytes ml R (pc, L, .int y :: .int x :: S, A, c, n) q := by
  by_cases h : y < x
  · exact Sim.tr (s_icmp_gt_t hd h ho hp) (ht h)
  · exact Sim.tr (s_icmp_gt_f hd h) (hf h)
theorem Sim.if_gt {q : oS} {o : Int} {x : Int32} (hd : decode bytes pc = .ok (.ifCond .gt o, 3)) (ho : 0 ≤ (pc : Int) + o) (hp : ((pc : Int) + o).toNat = pc') (ht : 0 < x → Sim l Z K ρ own mn bytes ml R (pc', L, S, A, c, n) q) (hf : ¬ 0 < x → Sim l Z K ρ own mn bytes ml R (pc + 3, L, S, A, c, n) q) : Sim l Z K ρ own mn bytes ml R (pc, L, .int x :: S, A, c, n) q := by
  by_cases h : 0 < x
  · exact Sim.tr (s_if_gt_t hd h ho hp) (ht h)
  · exact Sim.tr (s_if_gt_f hd h) (hf h)
theorem EndsE.icmp_gt {o : Int} {x y : Int32} (hd : decode bytes pc = .ok (.if_icmp .gt o, 3)) (ho : 0 ≤ (pc : Int) + o) (hp : ((pc : Int) + o).toNat = pc') (ht : y < x → EndsE l Z K ρ own mn bytes ml R ret (pc', L, S, A, c, n) v) (hf : ¬ y < x → EndsE l Z K ρ own mn bytes ml R ret (pc + 3, L, S, A, c, n) v) : EndsE l Z K ρ own mn bytes ml R ret (pc, L, .int y :: .int x :: S, A, c, n) v := by
  by_cases h : y < x
  · exact EndsE.st (s_icmp_gt_t hd h ho hp) (ht h)
  · exact EndsE.st (s_icmp_gt_f hd h) (hf h)
theorem EndsE.if_gt {o : Int} {x : Int32} (hd : decode bytes pc = .ok (.ifCond .gt o, 3)) (ho : 0 ≤ (pc : Int) + o) (hp : ((pc : Int) + o).toNat = pc') (ht : 0 < x → EndsE l Z K ρ own mn bytes ml R ret (pc', L, S, A, c, n) v) (hf : ¬ 0 < x → EndsE l Z K ρ own mn bytes ml R ret (pc + 3, L, S, A, c, n) v) : EndsE l Z K ρ own mn bytes ml R ret (pc, L, .int x :: S, A, c, n) v := by
  by_cases h : 0 < x
  · exact EndsE.st (s_if_gt_t hd h ho hp) (ht h)
  · exact EndsE.st (s_if_gt_f hd h) (hf h)
theorem s_icmp_le_t {o : Int} {x y : Int32} (hd : decode bytes pc = .ok (.if_icmp .le o, 3)) (h : ¬ y < x) (ho : 0 ≤ (pc : Int) + o) (hp : ((pc : Int) + o).toNat = pc') : Sim l Z K ρ own mn bytes ml R (pc, L, .int y :: .int x :: S, A, c, n) (pc', L, S, A, c, n) :=
  Sim.pure rfl fun p e s m args below meth cd T locs X hx hZ hby hown target k => XS.icmpYes X.here hx rfl rfl (hb hby hd) rfl (flt h).2.2.2 ho hp k
theorem s_icmp_le_f {o : Int} {x y : Int32} (hd : decode bytes pc = .ok (.if_icmp .le o, 3)) (h : y < x) : Sim l Z K ρ own mn bytes ml R (pc, L, .int y :: .int x :: S, A, c, n) (pc + 3, L, S, A, c, n) :=
  Sim.pure rfl fun p e s m args below meth cd T locs X hx hZ hby hown target k => XS.icmpNo X.here hx rfl (hb hby hd) rfl (tlt h).2.2.2 k
theorem s_if_le_t {o : Int} {x : Int32} (hd : decode bytes pc = .ok (.ifCond .le o, 3)) (h : ¬ 0 < x) (ho : 0 ≤ (pc : Int) + o) (hp : ((pc : Int) + o).toNat = pc') : Sim l Z K ρ own mn bytes ml R (pc, L, .int x :: S, A, c, n) (pc', L, S, A, c, n) :=
  Sim.pure rfl fun p e s m args below meth cd T locs X hx hZ hby hown target k => XS.ifYes X.here hx rfl rfl (hb hby hd) rfl ((if0 _ _).trans (flt h).2.2.2) ho hp k
theorem s_if_le_f {o : Int} {x : Int32} (hd : decode bytes pc = .ok (.ifCond .le o, 3)) (h : 0 < x) : Sim l Z K ρ own mn bytes ml R (pc, L, .int x :: S, A, c, n) (pc + 3, L, S, A, c, n) :=
  Sim.pure rfl fun p e s m args below meth cd T locs X hx hZ hby hown target k => XS.ifNo X.here hx rfl (hb hby hd) rfl ((if0 _ _).trans (tlt h).2.2.2) k
theorem Ends.icmp_le {o : Int} {x y : Int32} (hd : decode bytes pc = .ok (.if_icmp .le o, 3)) (ho : 0 ≤ (pc : Int) + o) (hp : ((pc : Int) + o).toNat = pc') (ht : ¬ y < x → Ends l Z K ρ own mn bytes ml R ret (pc', L, S, A, c, n) v A') (hf : y < x → Ends l Z K ρ own mn bytes ml R ret (pc + 3, L, S, A, c, n) v A') : Ends l Z K ρ own mn bytes ml R ret (pc, L, .int y :: .int x :: S, A, c, n) v A' := by
  by_cases h : ¬ y < x
  · exact Ends.st (s_icmp_le_t hd h ho hp) (ht h)
  · exact Ends.st (s_icmp_le_f hd (Classical.not_not.mp h)) (hf (Classical.not_not.mp h))
theorem Ends.if_le {o : Int} {x : Int32} (hd : decode bytes pc = .ok (.ifCond .le o, 3)) (ho : 0 ≤ (pc : Int) + o) (hp : ((pc : Int) + o).toNat = pc') (ht : ¬ 0 < x → Ends l Z K ρ own mn bytes ml R ret (pc', L, S, A, c, n) v A') (hf : 0 < x → Ends l Z K ρ own mn bytes ml R ret (pc + 3, L, S, A, c, n) v A') : Ends l Z K ρ own mn bytes ml R ret (pc, L, .int x :: S, A, c, n) v A' := by
  by_cases h : ¬ 0 < x
  · exact Ends.st (s_if_le_t hd h ho hp) (ht h)
  · exact Ends.st (s_if_le_f hd (Classical.not_not.mp h)) (hf (Classical.not_not.mp h))
theorem Sim.icmp_le {q : oS} {o : Int} {x y : Int32} (hd : decode bytes pc = .ok (.if_icmp .le o, 3)) (ho : 0 ≤ (pc : Int) + o) (hp : ((pc : Int) + o).toNat = pc') (ht : ¬ y < x → Sim l Z K ρ own mn bytes ml R (pc', L, S, A, c, n) q) (hf : y < x → Sim l Z K ρ own mn bytes ml R (pc + 3, L, S, A, c, n) q) : Sim l Z K ρ own mn bytes ml R (pc, L, .int y :: .int x :: S, A, c, n) q := by
  by_cases h : ¬ y < x
  · exact Sim.tr (s_icmp_le_t hd h ho hp) (ht h)
  · exact Sim.tr (s_icmp_le_f hd (Classical.not_not.mp h)) (hf (Classical.not_not.mp h))
theorem Sim.if_le {q : oS} {o : Int} {x : Int32} (hd : decode bytes pc = .ok (.ifCond .le o, 3)) (ho : 0 ≤ (pc : Int) + o) (hp : ((pc : Int) + o).toNat = pc') (ht : ¬ 0 < x → Sim l Z K ρ own mn bytes ml R (pc', L, S, A, c, n) q) (hf : 0 < x → Sim l Z K ρ own mn bytes ml R (pc + 3, L, S, A, c, n) q) : Sim l Z K ρ own mn bytes ml R (pc, L, .int x :: S, A, c, n) q := by
  by_cases h : ¬ 0 < x
  · exact Sim.tr (s_if_le_t hd h ho hp) (ht h)
  · exact Sim.tr (s_if_le_f hd (Classical.not_not.mp h)) (hf (Classical.not_not.mp h))
theorem EndsE.icmp_le {o : Int} {x y : Int32} (hd : decode bytes pc = .ok (.if_icmp .le o, 3)) (ho : 0 ≤ (pc : Int) + o) (hp : ((pc : Int) + o).toNat = pc') (ht : ¬ y < x → EndsE l Z K ρ own mn bytes ml R ret (pc', L, S, A, c, n) v) (hf : y < x → EndsE l Z K ρ own mn bytes ml R ret (pc + 3, L, S, A, c, n) v) : EndsE l Z K ρ own mn bytes ml R ret (pc, L, .int y :: .int x :: S, A, c, n) v := by
  by_cases h : ¬ y < x
  · exact EndsE.st (s_icmp_le_t hd h ho hp) (ht h)
  · exact EndsE.st (s_icmp_le_f hd (Classical.not_not.mp h)) (hf (Classical.not_not.mp h))
theorem EndsE.if_le {o : Int} {x : Int32} (hd : decode bytes pc = .ok (.ifCond .le o, 3)) (ho : 0 ≤ (pc : Int) + o) (hp : ((pc : Int) + o).toNat = pc') (ht : ¬ 0 < x → EndsE l Z K ρ own mn bytes ml R ret (pc', L, S, A, c, n) v) (hf : 0 < x → EndsE l Z K ρ own mn bytes ml R ret (pc + 3, L, S, A, c, n) v) : EndsE l Z K ρ own mn bytes ml R ret (pc, L, .int x :: S, A, c, n) v := by
  by_cases h : ¬ 0 < x
  · exact EndsE.st (s_if_le_t hd h ho hp) (ht h)
  · exact EndsE.st (s_if_le_f hd (Classical.not_not.mp h)) (hf (Classical.not_not.mp h))
theorem s_ifnull_t {o : Int} (hd : decode bytes pc = .ok (.ifnull o, 3)) (ho : 0 ≤ (pc : Int) + o) (hp : ((pc : Int) + o).toNat = pc') : Sim l Z K ρ own mn bytes ml R (pc, L, .null :: S, A, c, n) (pc', L, S, A, c, n) :=
  Sim.pure rfl fun p e s m args below meth cd T locs X hx hZ hby hown target k => XS.ifnullYes X.here hx rfl rfl (hb hby hd) rfl ho hp k
theorem s_ifnull_f {o : Int} {j : Addr} (hd : decode bytes pc = .ok (.ifnull o, 3)) : Sim l Z K ρ own mn bytes ml R (pc, L, .ref j :: S, A, c, n) (pc + 3, L, S, A, c, n) :=
  Sim.pure rfl fun p e s m args below meth cd T locs X hx hZ hby hown target k => XS.ifnullNo X.here hx rfl (hb hby hd) rfl k
theorem oRep.arr {h : Heap} {j : Nat} {ty : FieldType} {vs : List Value} (H : oRep Z K ρ h A) (hA : A[j]? = some (.inr (ty, vs))) : (vs.length < 2 ^ 31 ∧ ∀ w ∈ vs, fits ty (ov ρ w) = true) ∧ ∃ cl : Cell, Arr Z h (ρ.1 j) cl ty ∧ cl.slots = (vs.map (ov ρ)).toArray := H.2 j _ hA
theorem oin {cl : Cell} {vs : List Value} {i : Int32} {w : Value} (e : cl.slots = (vs.map (ov ρ)).toArray) (h0 : ¬ i < 0) (hv : vs[i.toNatClampNeg]? = some w) : ¬ (i < 0 ∨ cl.slots.size ≤ i.toNatClampNeg) ∧ cl.slots[i.toNatClampNeg]? = some (ov ρ w) := by
  have hi := (List.getElem?_eq_some_iff.mp hv).1
  refine ⟨fun q => q.elim h0 fun q => ?_, ?_⟩
  · rw [e] at q; simp at q; omega
  · rw [e]; simp [hv]
theorem olen {vs : List Value} (h : vs.length < 2 ^ 31) {cl : Cell} (e : cl.slots = (vs.map (ov ρ)).toArray) : cl.slots.size.toInt32 = Int32.ofNat vs.length := by
  rw [e]; simp [Nat.toInt32]
theorem s_arraylength {j : Addr} {ty : FieldType} {vs : List Value} (hd : decode bytes pc = .ok (.arraylength, 1)) (hA : A[j]? = some (.inr (ty, vs))) : Sim l Z K ρ own mn bytes ml R (pc, L, .ref j :: S, A, c, n) (pc + 1, L, .int (Int32.ofNat vs.length) :: S, A, c, n) :=
  fun p e s m args below meth cd T locs X hx hZ hby hml hown hnm hR hF hL => by
    obtain ⟨h1, cl, h2, h3⟩ := hR.arr hA
    exact ⟨T, locs, X, hR, hF, hL, fun target k => X.arraylength hx h2.1 (State.isArrayOf_alike hZ.alike h2.2.1) (g := oF ρ m (pc, L, .ref j :: S, A, c, n)) rfl rfl (hb hby hd) target (by rw [olen h1.1 h3]; exact k)⟩
theorem s_iaload {j : Addr} {vs : List Value} {i : Int32} {w : Value} (hd : decode bytes pc = .ok (.iaload, 1)) (hA : A[j]? = some (.inr (.int, vs))) (h0 : ¬ i < 0) (hv : vs[i.toNatClampNeg]? = some w) : Sim l Z K ρ own mn bytes ml R (pc, L, .int i :: .ref j :: S, A, c, n) (pc + 1, L, w :: S, A, c, n) :=
  fun p e s m args below meth cd T locs X hx hZ hby hml hown hnm hR hF hL => by
    obtain ⟨h1, cl, h2, h3⟩ := hR.arr hA
    obtain ⟨q1, q2⟩ := oin h3 h0 hv
    exact ⟨T, locs, X, hR, hF, hL, fun target k => X.iaload hx h2.1 (State.isArrayOf_alike hZ.alike h2.2.1) h2.2.2 q1 q2 (g := oF ρ m (pc, L, .int i :: .ref j :: S, A, c, n)) rfl rfl (hb hby hd) target k⟩
theorem s_laload {j : Addr} {vs : List Value} {i : Int32} {w : Value} (hd : decode bytes pc = .ok (.laload, 1)) (hA : A[j]? = some (.inr (.long, vs))) (h0 : ¬ i < 0) (hv : vs[i.toNatClampNeg]? = some w) : Sim l Z K ρ own mn bytes ml R (pc, L, .int i :: .ref j :: S, A, c, n) (pc + 1, L, w :: S, A, c, n) :=
  fun p e s m args below meth cd T locs X hx hZ hby hml hown hnm hR hF hL => by
    obtain ⟨h1, cl, h2, h3⟩ := hR.arr hA
    obtain ⟨q1, q2⟩ := oin h3 h0 hv
    exact ⟨T, locs, X, hR, hF, hL, fun target k => X.laload hx h2.1 (State.isArrayOf_alike hZ.alike h2.2.1) h2.2.2 q1 q2 (g := oF ρ m (pc, L, .int i :: .ref j :: S, A, c, n)) rfl rfl (hb hby hd) target k⟩
theorem s_baload {j : Addr} {vs : List Value} {i : Int32} {w : Value} (hd : decode bytes pc = .ok (.baload, 1)) (hA : A[j]? = some (.inr (.byte, vs))) (h0 : ¬ i < 0) (hv : vs[i.toNatClampNeg]? = some w) : Sim l Z K ρ own mn bytes ml R (pc, L, .int i :: .ref j :: S, A, c, n) (pc + 1, L, w :: S, A, c, n) :=
  fun p e s m args below meth cd T locs X hx hZ hby hml hown hnm hR hF hL => by
    obtain ⟨h1, cl, h2, h3⟩ := hR.arr hA
    obtain ⟨q1, q2⟩ := oin h3 h0 hv
    exact ⟨T, locs, X, hR, hF, hL, fun target k => X.baloadBytes hx h2.1 (State.isArrayOf_alike hZ.alike h2.2.1) h2.2.2 q1 q2 (g := oF ρ m (pc, L, .int i :: .ref j :: S, A, c, n)) rfl rfl (hb hby hd) target k⟩
theorem s_caload {j : Addr} {vs : List Value} {i : Int32} {w : Value} (hd : decode bytes pc = .ok (.caload, 1)) (hA : A[j]? = some (.inr (.char, vs))) (h0 : ¬ i < 0) (hv : vs[i.toNatClampNeg]? = some w) : Sim l Z K ρ own mn bytes ml R (pc, L, .int i :: .ref j :: S, A, c, n) (pc + 1, L, w :: S, A, c, n) :=
  fun p e s m args below meth cd T locs X hx hZ hby hml hown hnm hR hF hL => by
    obtain ⟨h1, cl, h2, h3⟩ := hR.arr hA
    obtain ⟨q1, q2⟩ := oin h3 h0 hv
    exact ⟨T, locs, X, hR, hF, hL, fun target k => X.caload hx h2.1 (State.isArrayOf_alike hZ.alike h2.2.1) h2.2.2 q1 q2 (g := oF ρ m (pc, L, .int i :: .ref j :: S, A, c, n)) rfl rfl (hb hby hd) target k⟩
theorem s_aaload {j : Addr} {vs : List Value} {i : Int32} {w : Value} {ty : FieldType} (hd : decode bytes pc = .ok (.aaload, 1)) (hA : A[j]? = some (.inr (ty, vs))) (hty : ty.isReference = true) (h0 : ¬ i < 0) (hv : vs[i.toNatClampNeg]? = some w) : Sim l Z K ρ own mn bytes ml R (pc, L, .int i :: .ref j :: S, A, c, n) (pc + 1, L, w :: S, A, c, n) :=
  fun p e s m args below meth cd T locs X hx hZ hby hml hown hnm hR hF hL => by
    obtain ⟨h1, cl, h2, h3⟩ := hR.arr hA
    obtain ⟨q1, q2⟩ := oin h3 h0 hv
    exact ⟨T, locs, X, hR, hF, hL, fun target k => X.aaload hx h2.1 (State.isArrayOf_alike hZ.alike h2.2.1) hty h2.2.2 q1 q2 (g := oF ρ m (pc, L, .int i :: .ref j :: S, A, c, n)) rfl rfl (hb hby hd) target k⟩
theorem oRep.arrSet {h h' : Heap} {j : Nat} {ty : FieldType} {vs : List Value} {i : Nat} {w : Value} (H : oRep Z K ρ h A) (hA : A[j]? = some (.inr (ty, vs))) (hft : fits ty (ov ρ w) = true) (W : Wr h h' (ρ.1 j) i (ov ρ w)) : oRep Z K ρ h' (A.set j (.inr (ty, vs.set i w))) := by
  obtain ⟨h1, cl, h2, h3⟩ := H.arr hA
  refine H.wr W ⟨⟨by simpa using h1.1, fun u hu => (List.mem_or_eq_of_mem_set hu).elim (h1.2 u) (fun q => q ▸ hft)⟩, cl.setSlot i (ov ρ w), h2.same W, ?_⟩
  show cl.slots.setIfInBounds i (ov ρ w) = _
  rw [h3]; simp
theorem s_iastore {j : Addr} {vs : List Value} {i : Int32} {x : Int32} (hd : decode bytes pc = .ok (.iastore, 1)) (hA : A[j]? = some (.inr (.int, vs))) (h0 : ¬ i < 0) (hi : i.toNatClampNeg < vs.length) (hA' : A.set j (.inr (.int, vs.set i.toNatClampNeg (.int x))) = A') : Sim l Z K ρ own mn bytes ml R (pc, L, .int x :: .int i :: .ref j :: S, A, c, n) (pc + 1, L, S, A', c, n) :=
  fun p e s m args below meth cd T locs X hx hZ hby hml hown hnm hR hF hL => by
    obtain ⟨h1, cl, h2, h3⟩ := hR.arr hA
    have q1 : ¬ (i < 0 ∨ cl.slots.size ≤ i.toNatClampNeg) := fun q => q.elim h0 fun q => by rw [h3] at q; simp at q; omega
    obtain ⟨T', h', X', e', W, st⟩ := stI X hx hZ rfl h2 q1 (g := oF ρ m (pc, L, .int x :: .int i :: .ref j :: S, A, c, n)) rfl rfl (hb hby hd)
    subst e' hA'
    exact ⟨T', _, X', hR.arrSet (w := .int x) hA rfl W, Fr.snoc X' hF (hR.ge j), hL, st⟩
theorem s_lastore {j : Addr} {vs : List Value} {i : Int32} {x : Int64} (hd : decode bytes pc = .ok (.lastore, 1)) (hA : A[j]? = some (.inr (.long, vs))) (h0 : ¬ i < 0) (hi : i.toNatClampNeg < vs.length) (hA' : A.set j (.inr (.long, vs.set i.toNatClampNeg (.long x))) = A') : Sim l Z K ρ own mn bytes ml R (pc, L, .long x :: .int i :: .ref j :: S, A, c, n) (pc + 1, L, S, A', c, n) :=
  fun p e s m args below meth cd T locs X hx hZ hby hml hown hnm hR hF hL => by
    obtain ⟨h1, cl, h2, h3⟩ := hR.arr hA
    have q1 : ¬ (i < 0 ∨ cl.slots.size ≤ i.toNatClampNeg) := fun q => q.elim h0 fun q => by rw [h3] at q; simp at q; omega
    obtain ⟨T', h', X', e', W, st⟩ := stJ X hx hZ rfl h2 q1 (g := oF ρ m (pc, L, .long x :: .int i :: .ref j :: S, A, c, n)) rfl rfl (hb hby hd)
    subst e' hA'
    exact ⟨T', _, X', hR.arrSet (w := .long x) hA rfl W, Fr.snoc X' hF (hR.ge j), hL, st⟩
theorem s_bastore {j : Addr} {vs : List Value} {i : Int32} {x : Int32} (hd : decode bytes pc = .ok (.bastore, 1)) (hA : A[j]? = some (.inr (.byte, vs))) (h0 : ¬ i < 0) (hi : i.toNatClampNeg < vs.length) (hA' : A.set j (.inr (.byte, vs.set i.toNatClampNeg (.int x.toInt8.toInt32))) = A') : Sim l Z K ρ own mn bytes ml R (pc, L, .int x :: .int i :: .ref j :: S, A, c, n) (pc + 1, L, S, A', c, n) :=
  fun p e s m args below meth cd T locs X hx hZ hby hml hown hnm hR hF hL => by
    obtain ⟨h1, cl, h2, h3⟩ := hR.arr hA
    have q1 : ¬ (i < 0 ∨ cl.slots.size ≤ i.toNatClampNeg) := fun q => q.elim h0 fun q => by rw [h3] at q; simp at q; omega
    obtain ⟨T', h', X', e', W, st⟩ := stB X hx hZ rfl h2 q1 (g := oF ρ m (pc, L, .int x :: .int i :: .ref j :: S, A, c, n)) rfl rfl (hb hby hd)
    subst e' hA'
    exact ⟨T', _, X', hR.arrSet (w := .int x.toInt8.toInt32) hA (fits_nar_byte x) W, Fr.snoc X' hF (hR.ge j), hL, st⟩
theorem s_castore {j : Addr} {vs : List Value} {i : Int32} {x : Int32} (hd : decode bytes pc = .ok (.castore, 1)) (hA : A[j]? = some (.inr (.char, vs))) (h0 : ¬ i < 0) (hi : i.toNatClampNeg < vs.length) (hA' : A.set j (.inr (.char, vs.set i.toNatClampNeg (.int (nar .char x)))) = A') : Sim l Z K ρ own mn bytes ml R (pc, L, .int x :: .int i :: .ref j :: S, A, c, n) (pc + 1, L, S, A', c, n) :=
  fun p e s m args below meth cd T locs X hx hZ hby hml hown hnm hR hF hL => by
    obtain ⟨h1, cl, h2, h3⟩ := hR.arr hA
    have q1 : ¬ (i < 0 ∨ cl.slots.size ≤ i.toNatClampNeg) := fun q => q.elim h0 fun q => by rw [h3] at q; simp at q; omega
    obtain ⟨T', h', X', e', W, st⟩ := stC X hx hZ rfl h2 q1 (g := oF ρ m (pc, L, .int x :: .int i :: .ref j :: S, A, c, n)) rfl rfl (hb hby hd)
    subst e' hA'
    exact ⟨T', _, X', hR.arrSet (w := .int (nar .char x)) hA (fits_nar_char x) W, Fr.snoc X' hF (hR.ge j), hL, st⟩
theorem oRep.obj {h : Heap} {j cid : Nat} {vs : List Value} (H : oRep Z K ρ h A) (hA : A[j]? = some (.inl (cid, vs))) : Exa Z h (ρ.1 j) (K cid).1 ∧ ∀ (i : Nat) (f : String × String × String) (v : Value), (K cid).2[i]? = some f → vs[i]? = some v → Fld Z h (ρ.1 j) f.1 f.2.1 f.2.2 (ov ρ v) := H.2 j _ hA
theorem s_getfield {j : Addr} {cid i x : Nat} {vs : List Value} {w : Value} {O nm d : String} (wl : (Jvm.Cond.fieldLink own x O nm d).before a0 Z = true) (hf : (K cid).2[i]? = some (O, nm, d)) (hd : decode bytes pc = .ok (.getfield x, 3)) (hA : A[j]? = some (.inl (cid, vs))) (hv : vs[i]? = some w) : Sim l Z K ρ own mn bytes ml R (pc, L, .ref j :: S, A, c, n) (pc + 3, L, w :: S, A, c, n) :=
  fun p e s m args below meth cd T locs X hx hZ hby hml hown hnm hR hF hL => by
    have F := (hR.obj hA).2 i _ _ hf hv
    obtain ⟨T', X', e', st⟩ := getF X hx hZ hown (host := "") (Or.inl wl) Via.refl rfl F (g := oF ρ m (pc, L, .ref j :: S, A, c, n)) rfl rfl (hb hby hd)
    exact ⟨T', locs, X', by rw [e']; exact hR, hF, hL, st⟩
theorem oRep.fldSet {h h' : Heap} {j cid i : Nat} {vs : List Value} {f : String × String × String} {w old : Value} (H : oRep Z K ρ h A) (hK : oKOk Z a0 K cid) (hA : A[j]? = some (.inl (cid, vs))) (hf : (K cid).2[i]? = some f) (ho : vs[i]? = some old) (W : Wr h h' (ρ.1 j) (Jvm.RoadKit.slotOf Z f.1 f.2.1 f.2.2) (ov ρ w)) : oRep Z K ρ h' (A.set j (.inl (cid, vs.set i w))) := by
  obtain ⟨h1, h2⟩ := H.obj hA
  refine H.wr W ⟨h1.wr W, fun k g u hg hu => ?_⟩
  by_cases q : k = i
  · subst q
    have hg' : (K cid).2[k]? = some g := hg
    rw [hf] at hg'; cases hg'
    have hu' : (vs.set k w)[k]? = some u := hu
    rw [List.getElem?_set_self (List.getElem?_eq_some_iff.mp ho).1] at hu'; cases hu'
    exact (h2 k f old hf ho).same W
  · have hu' : (vs.set i w)[k]? = some u := hu
    rw [List.getElem?_set_ne (Ne.symm q)] at hu'
    have hg' : (K cid).2[k]? = some g := hg
    obtain ⟨l1, t1, p1⟩ := hK.1.at k g hg'
    obtain ⟨l2, t2, p2⟩ := hK.1.at i f hf
    exact (h2 k g u hg' hu').other W (Or.inr (slot_ne l1 l2 (hK.2 k i g f hg' hf q) p1 p2))
theorem s_putfield {j : Addr} {cid i x kk : Nat} {vs : List Value} {w old : Value} {O nm d : String} {ty : FieldType} (wl : (Jvm.Cond.fieldLink own x O nm d).before a0 Z = true) (hK : oKOk Z a0 K cid) (hf : (K cid).2[i]? = some (O, nm, d))
    (lay : (Jvm.Cond.lays (K cid).1 O nm d).before a0 Z = true ∨ ((Jvm.Cond.laysFinal (K cid).1 O nm d).before a0 Z = true ∧ own = O ∧ mn = "<init>")) (wi : (Jvm.Cond.instantiable (K cid).1 kk).before a0 Z = true) (hty : parseFieldDescriptor d = some ty) (hn : narrow ty (ov ρ w) = ov ρ w) (hft : fits ty (ov ρ w) = true)
    (hd : decode bytes pc = .ok (.putfield x, 3)) (hA : A[j]? = some (.inl (cid, vs))) (ho : vs[i]? = some old) (hA' : A.set j (.inl (cid, vs.set i w)) = A') : Sim l Z K ρ own mn bytes ml R (pc, L, w :: .ref j :: S, A, c, n) (pc + 3, L, S, A', c, n) :=
  fun p e s m args below meth cd T locs X hx hZ hby hml hown hnm hR hF hL => by
    have F := (hR.obj hA).2 i _ _ hf ho
    obtain ⟨T', h', X', e', W, st⟩ := putF X hx hZ hown (host := "") (Or.inl wl) Via.refl rfl F (hR.obj hA).1 (lay.imp id fun q => ⟨q.1, q.2.1, hnm.trans q.2.2⟩) wi hty hn hft (g := oF ρ m (pc, L, w :: .ref j :: S, A, c, n)) rfl rfl (hb hby hd)
    subst e' hA'
    exact ⟨T', _, X', hR.fldSet hK hA hf ho W, Fr.snoc X' hF (hR.ge j), hL, st⟩
theorem s_putfieldZ {j : Addr} {cid i x kk : Nat} {vs : List Value} {u u' : Int32} {old : Value} {O nm : String} (wl : (Jvm.Cond.fieldLink own x O nm "Z").before a0 Z = true) (hK : oKOk Z a0 K cid) (hf : (K cid).2[i]? = some (O, nm, "Z"))
    (lay : (Jvm.Cond.lays (K cid).1 O nm "Z").before a0 Z = true ∨ ((Jvm.Cond.laysFinal (K cid).1 O nm "Z").before a0 Z = true ∧ own = O ∧ mn = "<init>")) (wi : (Jvm.Cond.instantiable (K cid).1 kk).before a0 Z = true) (hu : u &&& 1 = u')
    (hd : decode bytes pc = .ok (.putfield x, 3)) (hA : A[j]? = some (.inl (cid, vs))) (ho : vs[i]? = some old) (hA' : A.set j (.inl (cid, vs.set i (.int u'))) = A') : Sim l Z K ρ own mn bytes ml R (pc, L, .int u :: .ref j :: S, A, c, n) (pc + 3, L, S, A', c, n) :=
  fun p e s m args below meth cd T locs X hx hZ hby hml hown hnm hR hF hL => by
    have F := (hR.obj hA).2 i _ _ hf ho
    obtain ⟨T', h', X', e', W, st⟩ := putFN X hx hZ hown wl Via.refl rfl F (hR.obj hA).1 (lay.imp id fun q => ⟨q.1, q.2.1, hnm.trans q.2.2⟩) wi (ty := .boolean) (v' := .int (nar .boolean u)) (by decide) rfl (fits_nar_bool u) (g := oF ρ m (pc, L, .int u :: .ref j :: S, A, c, n)) rfl rfl (hb hby hd)
    subst e' hA' hu
    exact ⟨T', _, X', hR.fldSet (w := .int (u &&& 1)) hK hA hf ho W, Fr.snoc X' hF (hR.ge j), hL, st⟩
theorem opush_ext (h : Heap) (cl : Cell) : Ext h (h.push cl) := ⟨by simp, fun a d q => by rw [Array.getElem?_push_lt (Array.getElem?_eq_some_iff.mp q).1]; exact (Array.getElem?_eq_getElem _).symm.trans q⟩
theorem opush_at (h : Heap) (cl : Cell) : (h.push cl)[h.size]? = some cl := by simp
theorem s_new {cid x sz j : Nat} {vs : List Value} (wl : (Jvm.Cond.classLink own x (K cid).1).before a0 Z = true) (wi : (Jvm.Cond.instantiable (K cid).1 sz).before a0 Z = true) (wz : (Jvm.Cond.initialized (K cid).1).before a0 Z = true) (hK : oKOk Z a0 K cid) (hv : oDflt (K cid).2 vs)
    (hd : decode bytes pc = .ok (.new x, 3)) (hj : A.length = j) (hc : c + 1 ≤ R.cells) (hn : n + sz ≤ R.slots) (hA' : A ++ [.inl (cid, vs)] = A') : Sim l Z K ρ own mn bytes ml R (pc, L, S, A, c, n) (pc + 3, L, .ref j :: S, A', c + 1, n + sz) :=
  fun p e s m args below meth cd T locs X hx hZ hby hml hown hnm hR hF hL => by
    obtain ⟨vm', cC, kC, h1, h2, h3, h4, X', st⟩ := X.newCold hx hown (mv hZ wl) (mv hZ wi) (mv hZ wz) (g := oF ρ m (pc, L, S, A, c, n)) rfl (hb hby hd) hc hn
    subst hA' hj
    rw [hZ.alike.findClass] at h1
    obtain ⟨kZ, z1, -⟩ := Vm.findClass_spec h1
    obtain ⟨k', z2, z3⟩ := hZ.alike.2.2 _ _ z1
    cases h2.symm.trans z2
    have ei : kC.instanceTypes = kZ.instanceTypes := by rw [z3]
    have hN := opush_at T.heap { cls := cC, slots := kC.instanceTypes.map defaultValue, vm := .none }
    have hrep := hR.push (opush_ext T.heap { cls := cC, slots := kC.instanceTypes.map defaultValue, vm := .none }) (by simp) (c := .inl (cid, vs)) ⟨⟨_, kZ, hN, h1, z1, rfl, fun _ => by simp [ei]⟩, fun i f w hf hw => by
      obtain ⟨t, ht, rfl⟩ := hv.at i f w hf hw
      obtain ⟨lf, -⟩ := hK.1.at i f hf
      obtain ⟨c1, k1, cf, kf, i', f', a1, a2, a3, a4, a5, a6, -⟩ := lf.spec
      cases h1.symm.trans a1
      cases z1.symm.trans a2
      rw [ov_dflt]
      exact ⟨_, cf, kf, i', f', hN, a3, a4, by simp, rfl, a5, by simp [ei, a6, (State.fieldFound?_type a3 ht).2]⟩⟩
    refine ⟨_, locs, X', hrep, hF, hL, fun target k => st target ?_⟩
    have e0 : T.heap.size = ρ.1 A.length := hR.1.1
    rw [e0]; exact k
theorem s_newarray {aty : ArrayType} {i : Int32} {j q cap : Nat} (w : (Jvm.Cond.arrayClass (newarray.typeOf aty)).before a0 Z = true) (hd : decode bytes pc = .ok (.newarray aty, 2)) (hj : A.length = j) (h0 : ¬ i < 0) (hq : i.toNatClampNeg = q) (hcap : q ≤ cap) (hb8 : cap * 8 ≤ 536870912) (hc : c + 1 ≤ R.cells) (hn : n + cap ≤ R.slots)
    (hA' : A ++ [.inr (newarray.typeOf aty, List.replicate q (defaultValue (newarray.typeOf aty)))] = A') : Sim l Z K ρ own mn bytes ml R (pc, L, .int i :: S, A, c, n) (pc + 2, L, .ref j :: S, A', c + 1, n + cap) :=
  fun p e s m args below meth cd T locs X hx hZ hby hml hown hnm hR hF hL => by
    have hcb : componentBytes (newarray.typeOf aty) ≤ 8 := by cases aty <;> decide
    subst hq
    obtain ⟨cA, kA, comp, h1, h2, h3, X', st⟩ := X.newarrayPrim hx (mvA hZ w) (g := oF ρ m (pc, L, .int i :: S, A, c, n)) rfl (hb hby hd) rfl h0 (Nat.le_trans (Nat.mul_le_mul hcap hcb) hb8) hc (by show n + _ ≤ _; omega)
    subst hA' hj
    rw [hZ.alike.findClass] at h1
    obtain ⟨kZ, z1, -⟩ := Vm.findClass_spec h1
    obtain ⟨k', z2, z3⟩ := hZ.alike.2.2 _ _ z1
    cases h2.symm.trans z2
    have hrep := hR.push (opush_ext T.heap { cls := cA, slots := Array.replicate i.toNatClampNeg (defaultValue (newarray.typeOf aty)), vm := .none }) (by simp) (c := .inr (newarray.typeOf aty, List.replicate i.toNatClampNeg (defaultValue (newarray.typeOf aty)))) ⟨⟨by show (List.replicate _ _).length < 2 ^ 31; rw [List.length_replicate]; omega, fun u hu => by rw [(List.mem_replicate.mp hu).2, ov_dflt]; cases aty <;> rfl⟩, _, ⟨opush_at _ _, ⟨by simp, kZ, z1, comp, by rw [← h3, z3]⟩, by simp⟩, by simp [ov_dflt]⟩
    refine ⟨_, locs, X'.more (Nat.le_refl _) (by show n + _ ≤ n + cap; omega), hrep, hF, hL, fun target k => st target ?_⟩
    have e0 : T.heap.size = ρ.1 A.length := hR.1.1
    rw [e0]; exact k
theorem s_anewarray {C : String} {x : Nat} {i : Int32} {j q : Nat} (w1 : (Jvm.Cond.classLink own x C).before a0 Z = true) (w2 : (Jvm.Cond.arrayOver (.object C)).before a0 Z = true) (hd : decode bytes pc = .ok (.anewarray x, 3)) (hj : A.length = j) (h0 : ¬ i < 0) (hq : i.toNatClampNeg = q) (hb8 : q * 8 ≤ 536870912) (hc : c + 1 ≤ R.cells) (hn : n + q ≤ R.slots)
    (hA' : A ++ [.inr (.object C, List.replicate q .null)] = A') : Sim l Z K ρ own mn bytes ml R (pc, L, .int i :: S, A, c, n) (pc + 3, L, .ref j :: S, A', c + 1, n + q) :=
  fun p e s m args below meth cd T locs X hx hZ hby hml hown hnm hR hF hL => by
    have w2' : (Jvm.Cond.arrayOver (.object C)).before args s = true := Cond.arrayOver_alike hZ.alike w2
    subst hq
    obtain ⟨vm₁, cA, kA, comp, -, h1, h2, h3, h4, X', st⟩ := X.anewarrayRefK hx hown (mv hZ w1) w2' (g := oF ρ m (pc, L, .int i :: S, A, c, n)) rfl (hb hby hd) rfl h0 (by omega) hc hn
    subst hA' hj
    rw [hZ.alike.findClass] at h1
    obtain ⟨kZ, z1, -⟩ := Vm.findClass_spec h1
    obtain ⟨k', z2, z3⟩ := hZ.alike.2.2 _ _ z1
    cases h2.symm.trans z2
    have kk : kZ.kind = .array comp (.object C) := by rw [← h3, z3]
    have hrep := hR.push (opush_ext T.heap { cls := cA, slots := Array.replicate i.toNatClampNeg .null, vm := .none }) (by simp) (c := .inr (.object C, List.replicate i.toNatClampNeg .null)) ⟨⟨by show (List.replicate _ _).length < 2 ^ 31; rw [List.length_replicate]; omega, fun u hu => by rw [(List.mem_replicate.mp hu).2]; rfl⟩, _, ⟨opush_at _ _, ⟨by simp, kZ, z1, comp, kk⟩, by simp⟩, by simp [ov]⟩
    refine ⟨_, locs, X', hrep, hF, hL, fun target k => st target ?_⟩
    have e0 : T.heap.size = ρ.1 A.length := hR.1.1
    rw [e0]; exact k
theorem s_initO {x W : Nat} {j : Addr} (w1 : (Jvm.Cond.methodLink own x Lib.objectInit).before a0 Z = true) (w2 : (Jvm.Cond.instanceMethod Lib.objectInit).before a0 Z = true) (w3 : (Jvm.Cond.code Lib.objectInit ⟨#[0xb1]⟩ 1 none).before a0 Z = true) (hd : decode bytes pc = .ok (.invokespecial x, 3)) (hf : 1 ≤ R.frames) (hW : (S.map fun v => v.category).sum = W) (hl : W + 12 ≤ R.locals) : Sim l Z K ρ own mn bytes ml R (pc, L, .ref j :: S, A, c, n) (pc + 3, L, S, A, c, n) :=
  fun p e s m args below meth cd T locs X hx hZ hby hml hown hnm hR hF hL => by
    obtain ⟨T', X', e', st⟩ := initO X hx hZ hown w1 w2 w3 rfl (g := oF ρ m (pc, L, .ref j :: S, A, c, n)) rfl (by rw [hml, ← hL]; simp) rfl (hb hby hd) hf (W := W) (by rw [← hW]; simp [Function.comp_def, ov_cat]) hl
    exact ⟨T', locs, X', by rw [e']; exact hR, hF, hL, st⟩
theorem ocat (S : List Value) : ((S.map (ov ρ)).map fun v => v.category).sum = (S.map fun v => v.category).sum := by simp [Function.comp_def, ov_cat]
theorem otl (v : Option Value) : (v.map (ov ρ)).toList = v.toList.map (ov ρ) := by cases v <;> rfl
theorem s_callS {x W : Nat} {y : MethodName} {by' : ByteArray} {ml' : Nat} {rt : Option FieldType} {rm : Room} {as : List Value} {S0 : List Value} (w1 : (Jvm.Cond.methodLink own x y).before a0 Z = true) (w2 : (Jvm.Cond.static y).before a0 Z = true) (w3 : (Jvm.Cond.initialized y.cls).before a0 Z = true) (w4 : (Jvm.Cond.code y by' ml' rt).before a0 Z = true)
    (hy : y.cls ≠ "java/lang/invoke/MethodHandle" ∧ y.cls ≠ "java/lang/invoke/VarHandle") (hlen : ∀ sig, parseMethodDescriptor y.desc = some sig → as.length = sig.parameters.length) (hd : decode bytes pc = .ok (.invokestatic x, 3)) (hM : Met l Z K ρ y by' ml' rt rm [] as A v A')
    (hS : S0 = as.reverse ++ S) (hW : (S.map fun v => v.category).sum = W) (hf : rm.frames + 1 ≤ R.frames) (hl : W + (ml' + 11) + rm.locals ≤ R.locals) (hc : c + rm.cells ≤ R.cells) (hn : n + rm.slots ≤ R.slots) : Sim l Z K ρ own mn bytes ml R (pc, L, S0, A, c, n) (pc + 3, L, v.toList ++ S, A', c + rm.cells, n + rm.slots) :=
  fun p e s m args below meth cd T locs X hx hZ hby hml hown hnm hR hF hL => by
    subst hS
    obtain ⟨_, _, ⟨T1, L1, k1, n1⟩, -, X1, ⟨Lc, hQ, l1, y1, z1⟩, st⟩ := Jvm.LawKit.callS X hx (y := y) hown (mvT hZ w1) (mvT hZ w2) (mvT hZ w3) (mvT hZ w4) hy (backOf (W := W) (Q := fun v' h L => v' = v.map (ov ρ) ∧ Fr (ρ.1 0) L ∧ oRep Z K ρ h A') (hM T.heap hR) hZ w4 w3 hf hl) (g := oF ρ m (pc, L, as.reverse ++ S, A, c, n)) rfl (by rw [hml, ← hL]; simp) (argsL := as.map (ov ρ)) (rest := S.map (ov ρ)) (fun sig q => by rw [List.length_map]; exact hlen sig q) (by show (as.reverse ++ S).map (ov ρ) = _; simp) (by show 2 * 0 + _ ≤ _; rw [ocat, hW]; omega) (hb hby hd) (fun _ _ => ⟨rfl, rfl, hc, hn⟩)
    dsimp only [Pt.U, Pt.locs, Pt.cells, Pt.slots] at X1 l1 y1 z1 st hQ
    subst l1 y1 z1
    obtain ⟨rfl, N1, R1⟩ := hQ
    refine ⟨T1, _, X1, R1, Fr.app hF N1, hL, fun target k => st target ?_⟩
    have e : (v.toList ++ S).map (ov ρ) = (v.map (ov ρ)).toList ++ S.map (ov ρ) := by rw [List.map_append, otl]
    rw [← e]; exact k
theorem s_callI {x W : Nat} {y : MethodName} {by' : ByteArray} {ml' : Nat} {rm : Room} {as : List Value} {j : Addr} {S0 : List Value} (hy1 : y.name = "<init>") (w1 : (Jvm.Cond.methodLink own x y).before a0 Z = true) (w2 : (Jvm.Cond.instanceMethod y).before a0 Z = true) (w3 : (Jvm.Cond.initialized y.cls).before a0 Z = true) (w4 : (Jvm.Cond.code y by' ml' none).before a0 Z = true)
    (hy : y.cls ≠ "java/lang/invoke/MethodHandle" ∧ y.cls ≠ "java/lang/invoke/VarHandle") (hlen : ∀ sig, parseMethodDescriptor y.desc = some sig → as.length = sig.parameters.length) (hd : decode bytes pc = .ok (.invokespecial x, 3)) (hM : Met l Z K ρ y by' ml' none rm [] (.ref j :: as) A v A')
    (hS : S0 = as.reverse ++ .ref j :: S) (hW : (S.map fun v => v.category).sum = W) (hf : rm.frames + 1 ≤ R.frames) (hl : W + (ml' + 11) + rm.locals ≤ R.locals) (hc : c + rm.cells ≤ R.cells) (hn : n + rm.slots ≤ R.slots) : Sim l Z K ρ own mn bytes ml R (pc, L, S0, A, c, n) (pc + 3, L, v.toList ++ S, A', c + rm.cells, n + rm.slots) :=
  fun p e s m args below meth cd T locs X hx hZ hby hml hown hnm hR hF hL => by
    subst hS
    obtain ⟨_, _, ⟨T1, L1, k1, n1⟩, -, X1, ⟨Lc, hQ, l1, y1, z1⟩, st⟩ := X.specialBack hx (y := y) hy1 hown (mvT hZ w1) (mvT hZ w2) (mvT hZ w4) hy (backOf (W := W) (Q := fun v' h L => v' = v.map (ov ρ) ∧ Fr (ρ.1 0) L ∧ oRep Z K ρ h A') (hM T.heap hR) hZ w4 w3 hf hl) (g := oF ρ m (pc, L, as.reverse ++ .ref j :: S, A, c, n)) rfl (by rw [hml, ← hL]; simp) (Steps.refl _) (a := ρ.1 j) (argsL := as.map (ov ρ)) (rest := S.map (ov ρ)) (fun sig q => by rw [List.length_map]; exact hlen sig q) (by show (as.reverse ++ .ref j :: S).map (ov ρ) = _; simp [ov]) (by show 2 * 0 + _ ≤ _; rw [ocat, hW]; omega) (hb hby hd) (fun _ _ => ⟨rfl, rfl, hc, hn⟩)
    dsimp only [Pt.U, Pt.locs, Pt.cells, Pt.slots] at X1 l1 y1 z1 st hQ
    subst l1 y1 z1
    obtain ⟨rfl, N1, R1⟩ := hQ
    refine ⟨T1, _, X1, R1, Fr.app hF N1, hL, fun target k => st.trans ?_⟩
    have e : (v.toList ++ S).map (ov ρ) = (v.map (ov ρ)).toList ++ S.map (ov ρ) := by rw [List.map_append, otl]
    rw [← e]; exact k
theorem s_callV {x W cid : Nat} {y : MethodName} {by' : ByteArray} {ml' : Nat} {rt : Option FieldType} {rm : Room} {as : List Value} {j : Addr} {vs : List Value} {S0 : List Value} (w1 : (Jvm.Cond.methodLink own x y).before a0 Z = true) (w2 : (Jvm.Cond.instanceMethod y).before a0 Z = true) (w3 : (Jvm.Cond.initialized y.cls).before a0 Z = true) (w4 : (Jvm.Cond.code y by' ml' rt).before a0 Z = true)
    (w5 : (Jvm.Cond.declares y).before a0 Z = true) (w6 : (Jvm.Cond.selects (K cid).1 y y).before a0 Z = true) (hy : y.cls ≠ "java/lang/invoke/MethodHandle" ∧ y.cls ≠ "java/lang/invoke/VarHandle") (hC : (K cid).1 = y.cls) (hlen : ∀ sig, parseMethodDescriptor y.desc = some sig → as.length = sig.parameters.length) (hd : decode bytes pc = .ok (.invokevirtual x, 3)) (hA : A[j]? = some (.inl (cid, vs))) (hM : Met l Z K ρ y by' ml' rt rm [] (.ref j :: as) A v A')
    (hS : S0 = as.reverse ++ .ref j :: S) (hW : (S.map fun v => v.category).sum = W) (hf : rm.frames + 1 ≤ R.frames) (hl : W + (ml' + 11) + rm.locals ≤ R.locals) (hc : c + rm.cells ≤ R.cells) (hn : n + rm.slots ≤ R.slots) : Sim l Z K ρ own mn bytes ml R (pc, L, S0, A, c, n) (pc + 3, L, v.toList ++ S, A', c + rm.cells, n + rm.slots) :=
  fun p e s m args below meth cd T locs X hx hZ hby hml hown hnm hR hF hL => by
    subst hS
    obtain ⟨cq, kq, qa, qb, qc⟩ := isOf hZ rfl (hR.obj hA).1
    have w6' : (Jvm.Cond.selects y.cls y y).before a0 Z = true := by rw [← hC]; exact w6
    obtain ⟨_, _, ⟨T1, L1, k1, n1⟩, -, X1, ⟨Lc, hQ, l1, y1, z1⟩, st⟩ := X.virtualBack hx (y := y) (z := y) hown (mvT hZ w1) (mvT hZ w5) (notFace_of_selects (args := #[]) (mvT hZ w6')) (mvT hZ w6) (mvT hZ w2) hy (backOf (W := W) (Q := fun v' h L => v' = v.map (ov ρ) ∧ Fr (ρ.1 0) L ∧ oRep Z K ρ h A') (hM T.heap hR) hZ w4 w3 hf hl) qa qc (g := oF ρ m (pc, L, as.reverse ++ .ref j :: S, A, c, n)) rfl (by rw [hml, ← hL]; simp) (Steps.refl _) (argsL := as.map (ov ρ)) (rest := S.map (ov ρ)) (fun sig q => by rw [List.length_map]; exact hlen sig q) (by show (as.reverse ++ .ref j :: S).map (ov ρ) = _; simp [ov]) (by show 2 * 0 + _ ≤ _; rw [ocat, hW]; omega) (hb hby hd) (fun _ _ => ⟨rfl, rfl, hc, hn⟩)
    dsimp only [Pt.U, Pt.locs, Pt.cells, Pt.slots] at X1 l1 y1 z1 st hQ
    subst l1 y1 z1
    obtain ⟨rfl, N1, R1⟩ := hQ
    refine ⟨T1, _, X1, R1, Fr.app hF N1, hL, fun target k => st.trans ?_⟩
    have e : (v.toList ++ S).map (ov ρ) = (v.map (ov ρ)).toList ++ S.map (ov ρ) := by rw [List.map_append, otl]
    rw [← e]; exact k
theorem s_callP {x W cid kk : Nat} {y : MethodName} {by' : ByteArray} {ml' : Nat} {rt : Option FieldType} {rm : Room} {as : List Value} {j : Addr} {vs : List Value} {S0 : List Value} (w1 : (Jvm.Cond.methodLink own x y).before a0 Z = true) (w2 : (Jvm.Cond.instanceMethod y).before a0 Z = true) (w3 : (Jvm.Cond.initialized y.cls).before a0 Z = true) (w4 : (Jvm.Cond.code y by' ml' rt).before a0 Z = true)
    (w5 : (Jvm.Cond.privateMethod y).before a0 Z = true) (w6 : (Jvm.Cond.instantiable y.cls kk).before a0 Z = true) (hy : y.cls ≠ "java/lang/invoke/MethodHandle" ∧ y.cls ≠ "java/lang/invoke/VarHandle") (hlen : ∀ sig, parseMethodDescriptor y.desc = some sig → as.length = sig.parameters.length) (hd : decode bytes pc = .ok (.invokevirtual x, 3)) (hA : A[j]? = some (.inl (cid, vs))) (hM : Met l Z K ρ y by' ml' rt rm [] (.ref j :: as) A v A')
    (hS : S0 = as.reverse ++ .ref j :: S) (hW : (S.map fun v => v.category).sum = W) (hf : rm.frames + 1 ≤ R.frames) (hl : W + (ml' + 11) + rm.locals ≤ R.locals) (hc : c + rm.cells ≤ R.cells) (hn : n + rm.slots ≤ R.slots) : Sim l Z K ρ own mn bytes ml R (pc, L, S0, A, c, n) (pc + 3, L, v.toList ++ S, A', c + rm.cells, n + rm.slots) :=
  fun p e s m args below meth cd T locs X hx hZ hby hml hown hnm hR hF hL => by
    subst hS
    obtain ⟨cq, q1, q2⟩ := (hR.obj hA).1.cell
    have wi' : (Jvm.Cond.instantiable y.cls kk).before args s = true := mv hZ w6
    obtain ⟨c1, k1, f1, f2, -, f4, -⟩ := Cond.instantiable_spec wi'
    have hni : k1.isInterface = false := by cases q : k1.isInterface <;> simp [q] at f4 ⊢
    have hpv := Cond.privateMethod_at (mvP (args := args) hZ w5)
    have w2' : (Jvm.Cond.instanceMethod y).before args s = true := mvT hZ w2
    have w6' : (Jvm.Cond.selects y.cls y y).before args s = true := selects_self_of_private f1 f2 hni hpv w2' hy
    obtain ⟨_, _, ⟨T1, L1, k1, n1⟩, -, X1, ⟨Lc, hQ, l1, y1, z1⟩, st⟩ := X.privateBack hx (y := y) hown (mvT hZ w1) w2' w6' hpv (mvT hZ w4) hy (backOf (W := W) (Q := fun v' h L => v' = v.map (ov ρ) ∧ Fr (ρ.1 0) L ∧ oRep Z K ρ h A') (hM T.heap hR) hZ w4 w3 hf hl) (g := oF ρ m (pc, L, as.reverse ++ .ref j :: S, A, c, n)) rfl (by rw [hml, ← hL]; simp) (Steps.refl _) (a := ρ.1 j) q1 q2 (argsL := as.map (ov ρ)) (rest := S.map (ov ρ)) (fun sig q => by rw [List.length_map]; exact hlen sig q) (by show (as.reverse ++ .ref j :: S).map (ov ρ) = _; simp [ov]) (by show 2 * 0 + _ ≤ _; rw [ocat, hW]; omega) (hb hby hd) (fun _ _ => ⟨rfl, rfl, hc, hn⟩)
    dsimp only [Pt.U, Pt.locs, Pt.cells, Pt.slots] at X1 l1 y1 z1 st hQ
    subst l1 y1 z1
    obtain ⟨rfl, N1, R1⟩ := hQ
    refine ⟨T1, _, X1, R1, Fr.app hF N1, hL, fun target k => st.trans ?_⟩
    have e : (v.toList ++ S).map (ov ρ) = (v.map (ov ρ)).toList ++ S.map (ov ρ) := by rw [List.map_append, otl]
    rw [← e]; exact k
theorem orun1 (cl : Cell) (i : Nat) (w : Value) : cl.storeRun i [w] = cl.setSlot i w := rfl
theorem s_arraycopy1 {x W : Nat} {j k : Addr} {vs us : List Value} {sp dp : Int32} {w : Value} (w1 : (Jvm.Cond.methodLink own x Jvm.Stand.acN).before a0 Z = true) (w2 : (Jvm.Cond.native Jvm.Stand.acN).before a0 Z = true) (w3 : (Jvm.Cond.static Jvm.Stand.acN).before a0 Z = true) (w4 : (Jvm.Cond.initialized "java/lang/System").before a0 Z = true)
    (hd : decode bytes pc = .ok (.invokestatic x, 3)) (hA : A[j]? = some (.inr (.int, vs))) (hB : A[k]? = some (.inr (.int, us))) (h1 : ¬ sp < 0) (h2 : ¬ dp < 0) (hv : vs[sp.toNatClampNeg]? = some w) (hi : dp.toNatClampNeg < us.length) (hf : 1 ≤ R.frames) (hW : (S.map fun v => v.category).sum = W) (hl : W + 18 ≤ R.locals)
    (hA' : A.set k (.inr (.int, us.set dp.toNatClampNeg w)) = A') : Sim l Z K ρ own mn bytes ml R (pc, L, .int 1 :: .int dp :: .ref k :: .int sp :: .ref j :: S, A, c, n) (pc + 3, L, S, A', c, n) :=
  fun p e s m args below meth cd T locs X hx hZ hby hml hown hnm hR hF hL => by
    subst hA'
    obtain ⟨⟨a1, a1'⟩, cs, a2, a3⟩ := hR.arr hA
    obtain ⟨⟨b1, b1'⟩, ct, b2, b3⟩ := hR.arr hB
    obtain ⟨q1, q2⟩ := oin a3 h1 hv
    have hw : fits .int (ov ρ w) = true := a1' w (List.mem_of_getElem? hv)
    obtain ⟨z, ez⟩ := fit_I hw (Or.inl rfl)
    obtain ⟨os, ks, hks, sc, hsk⟩ := State.isArrayOf_alike hZ.alike a2.2.1
    obtain ⟨od, kd, hkd, dc, hdk⟩ := State.isArrayOf_alike hZ.alike b2.2.1
    have nat : ∀ {x : Int32}, ¬ x < 0 → x.toInt = x.toNatClampNeg := fun {x} q => by
      rw [Int32.lt_iff_toInt_lt] at q; have : (0 : Int32).toInt = 0 := rfl
      simp only [Int32.toNatClampNeg]; omega
    have sz1 : cs.slots.size = vs.length := by rw [a3]; simp
    have sz2 : ct.slots.size = us.length := by rw [b3]; simp
    have e1 : (1 : Int32).toInt = 1 := rfl
    have e1' : (1 : Int32).toNatClampNeg = 1 := rfl
    have hlt := (List.getElem?_eq_some_iff.mp hv).1
    have hgd : cs.slots.getD sp.toNatClampNeg .null = .int z := by rw [Array.getD_eq_getD_getElem?, q2, ez]; rfl
    have hst : cs.stretch sp.toNatClampNeg (1 : Int32).toNatClampNeg = [.int z] := by
      show [cs.slots.getD (sp.toNatClampNeg + 0) .null] = _
      rw [Nat.add_zero, hgd]
    obtain ⟨vm₁, hW₁, X', st⟩ := X.arraycopyK hx hown (mvT hZ w1) (mvT hZ w2) (mvT hZ w3) (mvT hZ w4) (srcPos := sp) (destPos := dp) (n := 1) a2.1 b2.1 os od a2.2.2 b2.2.2 hks hkd hsk hdk rfl h1 h2 (by decide)
      (by rw [nat h1, e1, sz1]; omega) (by rw [nat h2, e1, sz2]; omega) (fun vm hv i hi => by
        have hi0 : i = 0 := by rw [e1'] at hi; omega
        subst hi0
        rw [Nat.add_zero, hgd]; exact ⟨rfl, trivial⟩) (g := oF ρ m (pc, L, .int 1 :: .int dp :: .ref k :: .int sp :: .ref j :: S, A, c, n)) rfl (by rw [hml, ← hL]; simp) rfl (hb hby hd) hf (by show 2 * 0 + _ + (7 + 11) ≤ _; rw [ocat, hW]; omega)
    have ecp : copied cs ct sp dp 1 = ct.setSlot dp.toNatClampNeg (ov ρ w) := by
      show ct.storeRun _ (cs.stretch _ _) = _
      rw [hst, orun1, ez]
    rw [ecp] at X' st
    have hWr : Wr T.heap (T.heap.setIfInBounds (ρ.1 k) (ct.setSlot dp.toNatClampNeg (ov ρ w))) (ρ.1 k) dp.toNatClampNeg (ov ρ w) := ⟨ct, b2.1, b2.plain, by rw [sz2]; exact hi, rfl⟩
    refine ⟨_, _, X', hR.arrSet hB hw hWr, Fr.app hF fun y hy => ?_, hL, st⟩
    have := Jvm.Stand.copyLocs_base hy
    rw [this]; exact hR.ge k
/-! the returns -/
theorem e_return (hd : decode bytes pc = .ok (.return_, 1)) (hr : ret = none) (hc : c ≤ R.cells) (hn : n ≤ R.slots) : Ends l Z K ρ own mn bytes ml R ret (pc, L, [], A, c, n) none A :=
  fun p e s m args below meth cd T locs X hx hZ hby hml hown hnm hR hF hL hrt hlk => by
    obtain ⟨fs, hl, hrun, hended, hW, hsame⟩ := X.leave (v := none) (fun _ => rfl) hlk
    exact ⟨_, locs, X.returnOut hx (hrt.trans hr) (hb hby hd) hl, hrun, hended, hF, hR, hW, hsame.mono hc hn⟩
theorem e_ireturn {z : Int32} (hd : decode bytes pc = .ok (.ireturn, 1)) (hr : ret = some .int) (hc : c ≤ R.cells) (hn : n ≤ R.slots) : Ends l Z K ρ own mn bytes ml R ret (pc, L, .int z :: S, A, c, n) (some (.int z)) A :=
  fun p e s m args below meth cd T locs X hx hZ hby hml hown hnm hR hF hL hrt hlk => by
    obtain ⟨fs, hl, hrun, hended, hW, hsame⟩ := X.leave (v := some (.int z)) (fun h => by rw [hrt, hr] at h; cases h) hlk
    exact ⟨_, locs, retOut X hx (t := .int) (hrt.trans hr) rfl (Or.inl ⟨rfl, Or.inl rfl, z, rfl⟩) (hb hby hd) hl, hrun, hended, hF, hR, hW, hsame.mono hc hn⟩
theorem e_nreturn {z u : Int32} {t : FieldType} (hd : decode bytes pc = .ok (.ireturn, 1)) (hr : ret = some t) (ht : t = .boolean ∨ t = .byte ∨ t = .char ∨ t = .short) (hu : nar t z = u) (hc : c ≤ R.cells) (hn : n ≤ R.slots) : Ends l Z K ρ own mn bytes ml R ret (pc, L, .int z :: S, A, c, n) (some (.int u)) A :=
  fun p e s m args below meth cd T locs X hx hZ hby hml hown hnm hR hF hL hrt hlk => by
    subst hu
    obtain ⟨fs, hl, hrun, hended, hW, hsame⟩ := X.leave (v := some (.int (nar t z))) (fun h => by rw [hrt, hr] at h; cases h) hlk
    exact ⟨_, locs, retN X hx (t := t) (hrt.trans hr) ht (hb hby hd) hl, hrun, hended, hF, hR, hW, hsame.mono hc hn⟩
theorem e_lreturn {z : Int64} (hd : decode bytes pc = .ok (.lreturn, 1)) (hr : ret = some .long) (hc : c ≤ R.cells) (hn : n ≤ R.slots) : Ends l Z K ρ own mn bytes ml R ret (pc, L, .long z :: S, A, c, n) (some (.long z)) A :=
  fun p e s m args below meth cd T locs X hx hZ hby hml hown hnm hR hF hL hrt hlk => by
    obtain ⟨fs, hl, hrun, hended, hW, hsame⟩ := X.leave (v := some (.long z)) (fun h => by rw [hrt, hr] at h; cases h) hlk
    exact ⟨_, locs, retOut X hx (t := .long) (hrt.trans hr) rfl (Or.inr (Or.inl ⟨rfl, rfl, z, rfl⟩)) (hb hby hd) hl, hrun, hended, hF, hR, hW, hsame.mono hc hn⟩
theorem e_areturn {w : Value} {t : FieldType} (hd : decode bytes pc = .ok (.areturn, 1)) (hr : ret = some t) (ht : t.isReference = true) (hw : (ov ρ w).isRef = true) (hc : c ≤ R.cells) (hn : n ≤ R.slots) : Ends l Z K ρ own mn bytes ml R ret (pc, L, w :: S, A, c, n) (some w) A :=
  fun p e s m args below meth cd T locs X hx hZ hby hml hown hnm hR hF hL hrt hlk => by
    have hw' := hw
    obtain ⟨fs, hl, hrun, hended, hW, hsame⟩ := X.leave (v := some (ov ρ w)) (fun h => by rw [hrt, hr] at h; cases h) hlk
    exact ⟨_, locs, retOut X hx (t := t) (hrt.trans hr) (by cases t <;> first | rfl | cases ht) (Or.inr (Or.inr (Or.inr (Or.inr ⟨rfl, ht, hw'⟩)))) (hb hby hd) hl, hrun, hended, hF, hR, hW, hsame.mono hc hn⟩
/-! from the walk to the contract -/
def oE0 : List Value → List Slot
  | [] => []
  | v :: vs => if v.category = 2 then .val v :: .second :: oE0 vs else .val v :: oE0 vs
def oE (as : List Value) (ml : Nat) : List Slot := oE0 as ++ List.replicate (ml - (oE0 as).length) .unset
theorem oE0_ok (as : List Value) (acc : List Slot) : ((as.map (ov ρ)).toArray.foldl (init := acc.toArray) fun acc v => if v.category = 2 then (acc.push (.val v)).push .second else acc.push (.val v)) = (acc ++ (oE0 as).map (osl ρ)).toArray := by
  induction as generalizing acc with
  | nil => simp [oE0]
  | cons v vs ih =>
    have h := ih
    simp only [List.map_cons, List.foldl_toArray', List.foldl_cons, ov_cat] at h ⊢
    by_cases q : v.category = 2
    · have e : (acc.toArray.push (Slot.val (ov ρ v))).push .second = (acc ++ [Slot.val (ov ρ v), Slot.second]).toArray := by simp
      rw [if_pos q, e, h]; simp [oE0, q, osl]
    · have e : acc.toArray.push (Slot.val (ov ρ v)) = (acc ++ [Slot.val (ov ρ v)]).toArray := by simp
      rw [if_neg q, e, h]; simp [oE0, q, osl]
theorem oentry {as : List Value} {L0 : List Slot} (h : oE as ml = L0) (m : MethodId) : entryFrame m (as.map (ov ρ)).toArray ml = mkF m 0 (L0.map (osl ρ)).toArray [] := by
  subst h
  have e := oE0_ok (ρ := ρ) as []
  have q : argsToLocals (as.map (ov ρ)).toArray ml = ((oE as ml).map (osl ρ)).toArray := by
    have e' : ∀ X : Array Slot, X = (([] : List Slot) ++ (oE0 as).map (osl ρ)).toArray → X ++ Array.replicate (ml - X.size) Slot.unset = ((oE as ml).map (osl ρ)).toArray := fun X hX => by rw [hX]; simp [oE, osl]
    have e2 := e' _ e
    exact e2
  show ({ method := m, pc := 0, locals := argsToLocals _ ml, stack := [], locked := none } : JFrame) = _
  rw [q]
theorem Met.of {y : MethodName} {rm : Room} {ws : List Jvm.Cond} {as : List Value} {L0 : List Slot} (hp : plainFor y = true) (he : ∀ m, entryFrame m (as.map (ov ρ)).toArray ml = mkF m 0 (L0.map (osl ρ)).toArray []) (hL0 : L0.length = ml)
    (hE : Ends l Z K ρ y.cls y.name bytes ml rm ret (0, L0, [], A, 0, 0) v A') : Met l Z K ρ y bytes ml ret rm ws as A v A' := fun h0 hR0 => by
  refine MetFree.of_bodySF hp hisR ?_
  intro p e s m args below meth c s₁ Bd hml0 hP hK
  obtain ⟨rfl, hZ, hh⟩ := hP
  have hown : s.vm.findClass y.cls = some m.cls := findClass_of_methodNamed Bd.named
  have hnm := (name_of_methodNamed Bd.named Bd.method).1
  have X0 : Stand p l e rm s m (as.map (ov ρ)).toArray below meth c s₁ [] 0 0 := Stand.of_body Bd
  have e0 : s₁.heap = h0 := by rw [← hh, Bd.state]; rfl
  obtain ⟨s2, L, g1, g2, g3, g4, g5, g6, g7⟩ := hE p e s m _ below meth c s₁ [] X0 Bd.exec hZ Bd.bytes hml0 hown hnm (by show oRep Z K ρ s₁.heap A; rw [e0]; exact hR0) (Fr.nil _) hL0 Bd.returns Bd.notSynchronized
  refine ⟨s2, _, castTop (he m) g1, g2, g3, _, L, rfl, ⟨rfl, g4, g5⟩, ⟨_, rfl⟩, g6, g7⟩
theorem Met.ofE {y : MethodName} {rm : Room} {ws : List Jvm.Cond} {as : List Value} {L0 : List Slot} (hp : plainFor y = true) (he : ∀ m, entryFrame m (as.map (ov ρ)).toArray ml = mkF m 0 (L0.map (osl ρ)).toArray []) (hL0 : L0.length = ml)
    (hE : EndsE l Z K ρ y.cls y.name bytes ml rm ret (0, L0, [], A, 0, 0) v) : ∃ A', Met l Z K ρ y bytes ml ret rm ws as A v A' := hE.imp fun _ h => Met.of hp he hL0 h
end Layer

/-! ARITH: ints and longs by their unsigned numbers -/
def u32 (x : Int32) : Nat := x.toBitVec.toNat
def u64 (x : Int64) : Nat := x.toBitVec.toNat
theorem u32_lt (x : Int32) : u32 x < 4294967296 := x.toBitVec.isLt
theorem u64_lt (x : Int64) : u64 x < 18446744073709551616 := x.toBitVec.isLt
theorem u32_inj {x y : Int32} (h : u32 x = u32 y) : x = y := Int32.toBitVec_inj.mp (BitVec.eq_of_toNat_eq h)
theorem u64_inj {x y : Int64} (h : u64 x = u64 y) : x = y := Int64.toBitVec_inj.mp (BitVec.eq_of_toNat_eq h)
theorem u32_toInt (x : Int32) : x.toInt = if 2 * u32 x < 4294967296 then (u32 x : Int) else (u32 x : Int) - 4294967296 := BitVec.toInt_eq_toNat_cond x.toBitVec
theorem u64_toInt (x : Int64) : x.toInt = if 2 * u64 x < 18446744073709551616 then (u64 x : Int) else (u64 x : Int) - 18446744073709551616 := BitVec.toInt_eq_toNat_cond x.toBitVec
theorem u32_nn {x : Int32} (h : 0 ≤ x.toInt) : (u32 x : Int) = x.toInt := by have h1 := u32_toInt x; have := u32_lt x; split at h1 <;> omega
theorem u64_nn {x : Int64} (h : 0 ≤ x.toInt) : (u64 x : Int) = x.toInt := by have h1 := u64_toInt x; have := u64_lt x; split at h1 <;> omega
theorem u32_and (x y : Int32) : u32 (x &&& y) = u32 x &&& u32 y := by show (x &&& y).toBitVec.toNat = _; rw [Int32.toBitVec_and, BitVec.toNat_and]; rfl
theorem u32_or (x y : Int32) : u32 (x ||| y) = u32 x ||| u32 y := by show (x ||| y).toBitVec.toNat = _; rw [Int32.toBitVec_or, BitVec.toNat_or]; rfl
theorem u32_xor (x y : Int32) : u32 (x ^^^ y) = u32 x ^^^ u32 y := by show (x ^^^ y).toBitVec.toNat = _; rw [Int32.toBitVec_xor, BitVec.toNat_xor]; rfl
theorem u64_and (x y : Int64) : u64 (x &&& y) = u64 x &&& u64 y := by show (x &&& y).toBitVec.toNat = _; rw [Int64.toBitVec_and, BitVec.toNat_and]; rfl
theorem u64_or (x y : Int64) : u64 (x ||| y) = u64 x ||| u64 y := by show (x ||| y).toBitVec.toNat = _; rw [Int64.toBitVec_or, BitVec.toNat_or]; rfl
theorem u64_xor (x y : Int64) : u64 (x ^^^ y) = u64 x ^^^ u64 y := by show (x ^^^ y).toBitVec.toNat = _; rw [Int64.toBitVec_xor, BitVec.toNat_xor]; rfl
theorem u32_add (x y : Int32) : u32 (x + y) = (u32 x + u32 y) % 4294967296 := by show (x + y).toBitVec.toNat = _; rw [Int32.toBitVec_add, BitVec.toNat_add]; rfl
theorem u64_add (x y : Int64) : u64 (x + y) = (u64 x + u64 y) % 18446744073709551616 := by show (x + y).toBitVec.toNat = _; rw [Int64.toBitVec_add, BitVec.toNat_add]; rfl
theorem u32_mul (x y : Int32) : u32 (x * y) = (u32 x * u32 y) % 4294967296 := by show (x * y).toBitVec.toNat = _; rw [Int32.toBitVec_mul, BitVec.toNat_mul]; rfl
theorem u64_mul (x y : Int64) : u64 (x * y) = (u64 x * u64 y) % 18446744073709551616 := by show (x * y).toBitVec.toNat = _; rw [Int64.toBitVec_mul, BitVec.toNat_mul]; rfl
theorem and31 (n : Nat) : n &&& 31 = n % 32 := Nat.and_two_pow_sub_one_eq_mod n 5
theorem and63 (n : Nat) : n &&& 63 = n % 64 := Nat.and_two_pow_sub_one_eq_mod n 6
theorem u32_ushr (x y : Int32) : u32 (jushr x y) = u32 x / 2 ^ (u32 y % 32) := by
  show (x.toBitVec >>> ((y &&& 31).toBitVec % 32#32)).toNat = _
  rw [BitVec.ushiftRight_eq', BitVec.toNat_ushiftRight, Nat.shiftRight_eq_div_pow, BitVec.toNat_umod]
  have e : (y &&& 31).toBitVec.toNat = u32 y % 32 := (u32_and y 31).trans (and31 _)
  rw [e]
  show u32 x / 2 ^ (u32 y % 32 % 32) = _
  rw [Nat.mod_mod]
theorem u32_shl (x y : Int32) : u32 (jshl x y) = (u32 x * 2 ^ (u32 y % 32)) % 4294967296 := by
  show (x.toBitVec <<< ((y &&& 31).toBitVec.smod 32#32)).toNat = _
  have e := sm32 y (u32 y % 32) rfl
  rw [BitVec.shiftLeft_eq', BitVec.toNat_shiftLeft, Nat.shiftLeft_eq]
  have e' : ((y &&& 31).toBitVec.smod 32#32).toNat = u32 y % 32 := e
  rw [e']; rfl
theorem u64_ushr (x : Int64) (y : Int32) : u64 (jushrL x y) = u64 x / 2 ^ (u32 y % 64) := by
  obtain ⟨e, h⟩ := sm64 y (u32 y % 64) rfl
  show (x.toBitVec >>> ((y &&& 0x3f).toInt64.toBitVec % 64#64)).toNat = _
  rw [e, BitVec.ushiftRight_eq', BitVec.toNat_ushiftRight, Nat.shiftRight_eq_div_pow, BitVec.toNat_umod, BitVec.toNat_ofNat]
  show u64 x / 2 ^ (u32 y % 64 % 18446744073709551616 % 64) = _
  congr 2
  omega
theorem u64_shl (x : Int64) (y : Int32) : u64 (jshlL x y) = (u64 x * 2 ^ (u32 y % 64)) % 18446744073709551616 := by
  obtain ⟨e, h⟩ := sm64 y (u32 y % 64) rfl
  show (x.toBitVec <<< ((y &&& 0x3f).toInt64.toBitVec.smod 64#64)).toNat = _
  rw [e, BitVec.shiftLeft_eq', BitVec.toNat_shiftLeft, Nat.shiftLeft_eq]
  have e' := smod64 (u32 y % 64) h
  have e'' : ((BitVec.ofNat 64 (u32 y % 64)).smod 64#64).toNat = u32 y % 64 := e'
  rw [e'']; rfl
theorem u32_l2i (x : Int64) : u32 x.toInt32 = u64 x % 4294967296 := by
  show x.toInt32.toBitVec.toNat = _
  rw [Int64.toBitVec_toInt32, BitVec.signExtend_eq_setWidth_of_le _ (by decide), BitVec.toNat_setWidth]; rfl
theorem u64_i2l (x : Int32) : u64 x.toInt64 = if 2 * u32 x < 4294967296 then u32 x else u32 x + 18446744069414584320 := by
  have h := c_i2l x
  rw [u64_toInt, u32_toInt] at h
  have := u32_lt x; have := u64_lt x.toInt64
  split <;> split at h <;> omega
theorem i32_of {x : Int32} {n : Nat} (h : u32 x = n) : x = Int32.ofNat n := by
  apply u32_inj; rw [h]
  show n = (BitVec.ofNat 32 n).toNat
  rw [BitVec.toNat_ofNat, Nat.mod_eq_of_lt]; have := u32_lt x; omega
theorem i64_of {x : Int64} {n : Nat} (h : u64 x = n) : x = Int64.ofNat n := by
  apply u64_inj; rw [h]
  show n = (BitVec.ofNat 64 n).toNat
  rw [BitVec.toNat_ofNat, Nat.mod_eq_of_lt]; have := u64_lt x; omega
theorem u32_of (n : Nat) (h : n < 4294967296) : u32 (Int32.ofNat n) = n := by
  show (BitVec.ofNat 32 n).toNat = n
  rw [BitVec.toNat_ofNat, Nat.mod_eq_of_lt]; omega
theorem u64_of (n : Nat) (h : n < 18446744073709551616) : u64 (Int64.ofNat n) = n := by
  show (BitVec.ofNat 64 n).toNat = n
  rw [BitVec.toNat_ofNat, Nat.mod_eq_of_lt]; omega
theorem toInt_of {n : Nat} (h : n < 2147483648) : (Int32.ofNat n).toInt = n := Int32.toInt_ofNat_of_lt (by omega)
theorem tnc_of {n : Nat} (h : n < 2147483648) : (Int32.ofNat n).toNatClampNeg = n := by show (Int32.ofNat n).toInt.toNat = n; rw [toInt_of h]; rfl
theorem nneg_of {n : Nat} (h : n < 2147483648) : ¬ Int32.ofNat n < 0 := by rw [Int32.lt_iff_toInt_lt, toInt_of h]; show ¬ (n : Int) < 0; omega
theorem jcmp_lt (x y : Int64) : jcmp x y < 0 ↔ x < y := lw_lt x y
theorem jcmp_gt (x y : Int64) : 0 < jcmp x y ↔ y < x := lw_gt x y
theorem jcmp_eq (x y : Int64) : jcmp x y = 0 ↔ x = y := lw_eq x y
/-- a mask of the bits from k on -/
theorem nat_hi (n k w : Nat) (h : n < 2 ^ w) (hk : k ≤ w) : n &&& (2 ^ w - 2 ^ k) = n / 2 ^ k * 2 ^ k := by
  apply Nat.eq_of_testBit_eq
  intro i
  have e : 2 ^ w - 2 ^ k = (2 ^ (w - k) - 1) <<< k := by
    rw [Nat.shiftLeft_eq, Nat.sub_mul, Nat.one_mul, ← Nat.pow_add, Nat.sub_add_cancel hk]
  rw [e, ← Nat.shiftRight_eq_div_pow, ← Nat.shiftLeft_eq, Nat.testBit_and, Nat.testBit_shiftLeft, Nat.testBit_shiftLeft, Nat.testBit_two_pow_sub_one, Nat.testBit_shiftRight]
  by_cases q : k ≤ i
  · simp only [q, decide_true, Bool.true_and]
    have e2 : k + (i - k) = i := by omega
    rw [e2]
    by_cases r : i < w
    · have : decide (i - k < w - k) = true := by simp; omega
      rw [this, Bool.and_true]
    · have : n.testBit i = false := Nat.testBit_lt_two_pow (Nat.lt_of_lt_of_le h (Nat.pow_le_pow_right (by decide) (by omega)))
      rw [this]; simp
  · simp [q]

theorem d1_0 : decode prog_104_method_1_code 0 = .ok (.aload_n 0, 1) := by decide +kernel
theorem d1_1 : decode prog_104_method_1_code 1 = .ok (.invokespecial 1, 3) := by decide +kernel
theorem d1_4 : decode prog_104_method_1_code 4 = .ok (.aload_n 0, 1) := by decide +kernel
theorem d1_5 : decode prog_104_method_1_code 5 = .ok (.iload_n 1, 1) := by decide +kernel
theorem d1_6 : decode prog_104_method_1_code 6 = .ok (.invokestatic 7, 3) := by decide +kernel
theorem d1_9 : decode prog_104_method_1_code 9 = .ok (.newarray .int, 2) := by decide +kernel
theorem d1_11 : decode prog_104_method_1_code 11 = .ok (.putfield 13, 3) := by decide +kernel
theorem d1_14 : decode prog_104_method_1_code 14 = .ok (.aload_n 0, 1) := by decide +kernel
theorem d1_15 : decode prog_104_method_1_code 15 = .ok (.aload_n 0, 1) := by decide +kernel
theorem d1_16 : decode prog_104_method_1_code 16 = .ok (.getfield 13, 3) := by decide +kernel
theorem d1_19 : decode prog_104_method_1_code 19 = .ok (.arraylength, 1) := by decide +kernel
theorem d1_20 : decode prog_104_method_1_code 20 = .ok (.newarray .int, 2) := by decide +kernel
theorem d1_22 : decode prog_104_method_1_code 22 = .ok (.putfield 16, 3) := by decide +kernel
theorem d1_25 : decode prog_104_method_1_code 25 = .ok (.return_, 1) := by decide +kernel
theorem d3_0 : decode prog_104_method_2_code 0 = .ok (.iload_n 0, 1) := by decide +kernel
theorem d3_1 : decode prog_104_method_2_code 1 = .ok (.bipush 64, 2) := by decide +kernel
theorem d3_3 : decode prog_104_method_2_code 3 = .ok (.iadd, 1) := by decide +kernel
theorem d3_4 : decode prog_104_method_2_code 4 = .ok (.iconst 1, 1) := by decide +kernel
theorem d3_5 : decode prog_104_method_2_code 5 = .ok (.isub, 1) := by decide +kernel
theorem d3_6 : decode prog_104_method_2_code 6 = .ok (.bipush 64, 2) := by decide +kernel
theorem d3_8 : decode prog_104_method_2_code 8 = .ok (.idiv, 1) := by decide +kernel
theorem d3_9 : decode prog_104_method_2_code 9 = .ok (.ireturn, 1) := by decide +kernel
theorem d4_0 : decode prog_104_method_3_code 0 = .ok (.aload_n 0, 1) := by decide +kernel
theorem d4_1 : decode prog_104_method_3_code 1 = .ok (.iconst 0, 1) := by decide +kernel
theorem d4_2 : decode prog_104_method_3_code 2 = .ok (.putfield 21, 3) := by decide +kernel
theorem d4_5 : decode prog_104_method_3_code 5 = .ok (.iload_n 1, 1) := by decide +kernel
theorem d4_6 : decode prog_104_method_3_code 6 = .ok (.bipush 6, 2) := by decide +kernel
theorem d4_8 : decode prog_104_method_3_code 8 = .ok (.iushr, 1) := by decide +kernel
theorem d4_9 : decode prog_104_method_3_code 9 = .ok (.istore_n 3, 1) := by decide +kernel
theorem d4_10 : decode prog_104_method_3_code 10 = .ok (.iload_n 3, 1) := by decide +kernel
theorem d4_11 : decode prog_104_method_3_code 11 = .ok (.iload_n 2, 1) := by decide +kernel
theorem d4_12 : decode prog_104_method_3_code 12 = .ok (.iconst 1, 1) := by decide +kernel
theorem d4_13 : decode prog_104_method_3_code 13 = .ok (.isub, 1) := by decide +kernel
theorem d4_14 : decode prog_104_method_3_code 14 = .ok (.bipush 6, 2) := by decide +kernel
theorem d4_16 : decode prog_104_method_3_code 16 = .ok (.iushr, 1) := by decide +kernel
theorem d4_17 : decode prog_104_method_3_code 17 = .ok (.if_icmp .gt 25, 3) := by decide +kernel
theorem d4_20 : decode prog_104_method_3_code 20 = .ok (.aload_n 0, 1) := by decide +kernel
theorem d4_21 : decode prog_104_method_3_code 21 = .ok (.iload_n 3, 1) := by decide +kernel
theorem d4_22 : decode prog_104_method_3_code 22 = .ok (.aload_n 0, 1) := by decide +kernel
theorem d4_23 : decode prog_104_method_3_code 23 = .ok (.dup, 1) := by decide +kernel
theorem d4_24 : decode prog_104_method_3_code 24 = .ok (.getfield 21, 3) := by decide +kernel
theorem d4_27 : decode prog_104_method_3_code 27 = .ok (.dup_x1, 1) := by decide +kernel
theorem d4_28 : decode prog_104_method_3_code 28 = .ok (.iconst 1, 1) := by decide +kernel
theorem d4_29 : decode prog_104_method_3_code 29 = .ok (.iadd, 1) := by decide +kernel
theorem d4_30 : decode prog_104_method_3_code 30 = .ok (.putfield 21, 3) := by decide +kernel
theorem d4_33 : decode prog_104_method_3_code 33 = .ok (.invokevirtual 25, 3) := by decide +kernel
theorem d4_36 : decode prog_104_method_3_code 36 = .ok (.iinc 3 1, 3) := by decide +kernel
theorem d4_39 : decode prog_104_method_3_code 39 = .ok (.goto (-29), 3) := by decide +kernel
theorem d4_42 : decode prog_104_method_3_code 42 = .ok (.aload_n 0, 1) := by decide +kernel
theorem d4_43 : decode prog_104_method_3_code 43 = .ok (.iload_n 1, 1) := by decide +kernel
theorem d4_44 : decode prog_104_method_3_code 44 = .ok (.putfield 29, 3) := by decide +kernel
theorem d4_47 : decode prog_104_method_3_code 47 = .ok (.aload_n 0, 1) := by decide +kernel
theorem d4_48 : decode prog_104_method_3_code 48 = .ok (.iload_n 2, 1) := by decide +kernel
theorem d4_49 : decode prog_104_method_3_code 49 = .ok (.putfield 32, 3) := by decide +kernel
theorem d4_52 : decode prog_104_method_3_code 52 = .ok (.aload_n 0, 1) := by decide +kernel
theorem d4_53 : decode prog_104_method_3_code 53 = .ok (.iconst 1, 1) := by decide +kernel
theorem d4_54 : decode prog_104_method_3_code 54 = .ok (.putfield 35, 3) := by decide +kernel
theorem d4_57 : decode prog_104_method_3_code 57 = .ok (.return_, 1) := by decide +kernel
theorem d5_0 : decode prog_104_method_6_code 0 = .ok (.aload_n 0, 1) := by decide +kernel
theorem d5_1 : decode prog_104_method_6_code 1 = .ok (.getfield 13, 3) := by decide +kernel
theorem d5_4 : decode prog_104_method_6_code 4 = .ok (.iload_n 2, 1) := by decide +kernel
theorem d5_5 : decode prog_104_method_6_code 5 = .ok (.iload_n 1, 1) := by decide +kernel
theorem d5_6 : decode prog_104_method_6_code 6 = .ok (.iastore, 1) := by decide +kernel
theorem d5_7 : decode prog_104_method_6_code 7 = .ok (.aload_n 0, 1) := by decide +kernel
theorem d5_8 : decode prog_104_method_6_code 8 = .ok (.getfield 16, 3) := by decide +kernel
theorem d5_11 : decode prog_104_method_6_code 11 = .ok (.iload_n 1, 1) := by decide +kernel
theorem d5_12 : decode prog_104_method_6_code 12 = .ok (.iload_n 2, 1) := by decide +kernel
theorem d5_13 : decode prog_104_method_6_code 13 = .ok (.iastore, 1) := by decide +kernel
theorem d5_14 : decode prog_104_method_6_code 14 = .ok (.return_, 1) := by decide +kernel
theorem d6_0 : decode prog_104_method_13_code 0 = .ok (.ldc2_w 55, 3) := by decide +kernel
theorem d6_3 : decode prog_104_method_13_code 3 = .ok (.lstore_n 2, 1) := by decide +kernel
theorem d6_4 : decode prog_104_method_13_code 4 = .ok (.iload_n 1, 1) := by decide +kernel
theorem d6_5 : decode prog_104_method_13_code 5 = .ok (.aload_n 0, 1) := by decide +kernel
theorem d6_6 : decode prog_104_method_13_code 6 = .ok (.getfield 29, 3) := by decide +kernel
theorem d6_9 : decode prog_104_method_13_code 9 = .ok (.bipush 6, 2) := by decide +kernel
theorem d6_11 : decode prog_104_method_13_code 11 = .ok (.iushr, 1) := by decide +kernel
theorem d6_12 : decode prog_104_method_13_code 12 = .ok (.if_icmp .ne 14, 3) := by decide +kernel
theorem d6_15 : decode prog_104_method_13_code 15 = .ok (.lload_n 2, 1) := by decide +kernel
theorem d6_16 : decode prog_104_method_13_code 16 = .ok (.ldc2_w 55, 3) := by decide +kernel
theorem d6_19 : decode prog_104_method_13_code 19 = .ok (.aload_n 0, 1) := by decide +kernel
theorem d6_20 : decode prog_104_method_13_code 20 = .ok (.getfield 29, 3) := by decide +kernel
theorem d6_23 : decode prog_104_method_13_code 23 = .ok (.lshl, 1) := by decide +kernel
theorem d6_24 : decode prog_104_method_13_code 24 = .ok (.land, 1) := by decide +kernel
theorem d6_25 : decode prog_104_method_13_code 25 = .ok (.lstore_n 2, 1) := by decide +kernel
theorem d6_26 : decode prog_104_method_13_code 26 = .ok (.iload_n 1, 1) := by decide +kernel
theorem d6_27 : decode prog_104_method_13_code 27 = .ok (.aload_n 0, 1) := by decide +kernel
theorem d6_28 : decode prog_104_method_13_code 28 = .ok (.getfield 32, 3) := by decide +kernel
theorem d6_31 : decode prog_104_method_13_code 31 = .ok (.iconst 1, 1) := by decide +kernel
theorem d6_32 : decode prog_104_method_13_code 32 = .ok (.isub, 1) := by decide +kernel
theorem d6_33 : decode prog_104_method_13_code 33 = .ok (.bipush 6, 2) := by decide +kernel
theorem d6_35 : decode prog_104_method_13_code 35 = .ok (.iushr, 1) := by decide +kernel
theorem d6_36 : decode prog_104_method_13_code 36 = .ok (.if_icmp .ne 15, 3) := by decide +kernel
theorem d6_39 : decode prog_104_method_13_code 39 = .ok (.lload_n 2, 1) := by decide +kernel
theorem d6_40 : decode prog_104_method_13_code 40 = .ok (.ldc2_w 55, 3) := by decide +kernel
theorem d6_43 : decode prog_104_method_13_code 43 = .ok (.aload_n 0, 1) := by decide +kernel
theorem d6_44 : decode prog_104_method_13_code 44 = .ok (.getfield 32, 3) := by decide +kernel
theorem d6_47 : decode prog_104_method_13_code 47 = .ok (.ineg, 1) := by decide +kernel
theorem d6_48 : decode prog_104_method_13_code 48 = .ok (.lushr, 1) := by decide +kernel
theorem d6_49 : decode prog_104_method_13_code 49 = .ok (.land, 1) := by decide +kernel
theorem d6_50 : decode prog_104_method_13_code 50 = .ok (.lstore_n 2, 1) := by decide +kernel
theorem d6_51 : decode prog_104_method_13_code 51 = .ok (.lload_n 2, 1) := by decide +kernel
theorem d6_52 : decode prog_104_method_13_code 52 = .ok (.lreturn, 1) := by decide +kernel
theorem pn0 : plainFor (⟨"com/example/honeyguide/honeyguide/service/RegionPositionsInPinLaw", "law", "(IIIII)Z"⟩ : MethodName) = true := plainFor_of_name (by first | (simp [plainName, overriddenIn]; done) | decide +kernel)
theorem pn1 : plainFor (⟨"com/example/honeyguide/honeyguide/service/Region", "<init>", "(I)V"⟩ : MethodName) = true := plainFor_of_name (by first | (simp [plainName, overriddenIn]; done) | decide +kernel)
theorem pd1 : parseMethodDescriptor "(I)V" = some ⟨[.int], none⟩ := by decide +kernel
theorem pn3 : plainFor (⟨"com/example/honeyguide/honeyguide/service/Region", "words", "(I)I"⟩ : MethodName) = true := plainFor_of_name (by first | (simp [plainName, overriddenIn]; done) | decide +kernel)
theorem pd3 : parseMethodDescriptor "(I)I" = some ⟨[.int], some .int⟩ := by decide +kernel
theorem pn4 : plainFor (⟨"com/example/honeyguide/honeyguide/service/Region", "setRange", "(II)V"⟩ : MethodName) = true := plainFor_of_name (by first | (simp [plainName, overriddenIn]; done) | decide +kernel)
theorem pd4 : parseMethodDescriptor "(II)V" = some ⟨[.int, .int], none⟩ := by decide +kernel
theorem pn5 : plainFor (⟨"com/example/honeyguide/honeyguide/service/Region", "putWord", "(II)V"⟩ : MethodName) = true := plainFor_of_name (by first | (simp [plainName, overriddenIn]; done) | decide +kernel)
theorem pd5 : parseMethodDescriptor "(II)V" = some ⟨[.int, .int], none⟩ := by decide +kernel
theorem pn6 : plainFor (⟨"com/example/honeyguide/honeyguide/service/Region", "positionsIn", "(I)J"⟩ : MethodName) = true := plainFor_of_name (by first | (simp [plainName, overriddenIn]; done) | decide +kernel)
theorem pd6 : parseMethodDescriptor "(I)J" = some ⟨[.int], some .long⟩ := by decide +kernel
def CK : oK
  | 0 => ("com/example/honeyguide/honeyguide/service/Region", [("com/example/honeyguide/honeyguide/service/Region", "words", "[I"), ("com/example/honeyguide/honeyguide/service/Region", "indexOf", "[I"), ("com/example/honeyguide/honeyguide/service/Region", "count", "I"), ("com/example/honeyguide/honeyguide/service/Region", "first", "I"), ("com/example/honeyguide/honeyguide/service/Region", "end", "I"), ("com/example/honeyguide/honeyguide/service/Region", "gapless", "Z")])
  | _ => ("", [])
theorem kok0 {Z : State} {a0 : Array Value} (hw : ∀ d ∈ tables_1, d.before a0 Z = true) : oKOk Z a0 CK 0 := ⟨⟨⟨Or.inr (hw _ (List.mem_of_getElem? (i := 15) rfl)), (.array .int), by decide⟩, ⟨⟨Or.inr (hw _ (List.mem_of_getElem? (i := 17) rfl)), (.array .int), by decide⟩, ⟨⟨Or.inl (hw _ (List.mem_of_getElem? (i := 24) rfl)), .int, by decide⟩, ⟨⟨Or.inl (hw _ (List.mem_of_getElem? (i := 30) rfl)), .int, by decide⟩, ⟨⟨Or.inl (hw _ (List.mem_of_getElem? (i := 32) rfl)), .int, by decide⟩, ⟨⟨Or.inl (hw _ (List.mem_of_getElem? (i := 34) rfl)), .boolean, by decide⟩, trivial⟩⟩⟩⟩⟩⟩, oDistinct.of (by decide)⟩
theorem of_add (i j : Nat) : Int32.ofNat i + Int32.ofNat j = Int32.ofNat (i + j) := (Int32.ofNat_add i j).symm
theorem of_sub1 {i : Nat} (h : 0 < i) (h2 : i < 2147483648) : Int32.ofNat i - 1 = Int32.ofNat (i - 1) := by
  apply Int32.toInt_inj.mp
  have h3 := c_isub (Int32.ofNat i) 1
  have h4 := rng32 (Int32.ofNat i - 1)
  have e : (1 : Int32).toInt = 1 := rfl
  rw [toInt_of h2, e] at h3
  rw [toInt_of (show i - 1 < 2147483648 by omega)]; omega
theorem of_ushr6 {i : Nat} (h : i < 4294967296) : jushr (Int32.ofNat i) 6 = Int32.ofNat (i / 64) := i32_of (by rw [u32_ushr, u32_of i h]; rfl)
theorem lt_of {i j : Nat} (hi : i < 2147483648) (hj : j < 2147483648) : Int32.ofNat i < Int32.ofNat j ↔ i < j := by rw [Int32.lt_iff_toInt_lt, toInt_of hi, toInt_of hj]; omega
theorem eq_of {i j : Nat} (hi : i < 2147483648) (hj : j < 2147483648) : Int32.ofNat i = Int32.ofNat j ↔ i = j := by rw [← Int32.toInt_inj, toInt_of hi, toInt_of hj]; omega
theorem one_up (i : Nat) : Int32.ofNat i + Int32.ofInt 1 = Int32.ofNat (i + 1) := (Int32.ofNat_add i 1).symm

theorem mwords {l : Launch} {Z : State} {a0 : Array Value} (hw : ∀ d ∈ tables_1, d.before a0 Z = true) {ρ : oM} {A : oH} (x : Int32) : Met l Z CK ρ (⟨"com/example/honeyguide/honeyguide/service/Region", "words", "(I)I"⟩ : MethodName) prog_104_method_2_code 1 (some .int) ({ frames := 0, cells := 0, slots := 0, locals := 0 } : Room) [] [.int x] A (some (.int ((x + 64 - 1) / 64))) A := by
  refine Met.of (L0 := [.val (.int x)]) pn3 (oentry rfl) rfl ?_
  refine Ends.st (b := (1, _, _, _, 0, 0)) (s_iloadN d3_0 rfl) ?_
  refine Ends.st (b := (3, _, _, _, 0, 0)) (s_bipush (z := 64) d3_1 (by decide)) ?_
  refine Ends.st (b := (4, _, _, _, 0, 0)) (s_iadd d3_3) ?_
  refine Ends.st (b := (5, _, _, _, 0, 0)) (s_iconst (z := 1) d3_4 rfl) ?_
  refine Ends.st (b := (6, _, _, _, 0, 0)) (s_isub d3_5) ?_
  refine Ends.st (b := (8, _, _, _, 0, 0)) (s_bipush (z := 64) d3_6 (by decide)) ?_
  refine Ends.st (b := (9, _, _, _, 0, 0)) (s_idiv d3_8 (by decide)) ?_
  exact e_ireturn d3_9 rfl (by decide) (by decide)
theorem minit {l : Launch} {Z : State} {a0 : Array Value} (hw : ∀ d ∈ tables_1, d.before a0 Z = true) {ρ : oM} (x : Int32) (q : Nat) (hq : (x + 64 - 1) / 64 = Int32.ofNat q) (hc : q ≤ 64) : Met l Z CK ρ (⟨"com/example/honeyguide/honeyguide/service/Region", "<init>", "(I)V"⟩ : MethodName) prog_104_method_1_code 2 none ({ frames := 1, cells := 2, slots := 128, locals := 13 } : Room) [] [.ref 0, .int x] [.inl (0, [.null, .null, .int 0, .int 0, .int 0, .int 0])] none [.inl (0, [.ref 1, .ref 2, .int 0, .int 0, .int 0, .int 0]), .inr (.int, List.replicate q (.int 0)), .inr (.int, List.replicate q (.int 0))] := by
  refine Met.of (L0 := [.val (.ref 0), .val (.int x)]) pn1 (oentry rfl) rfl ?_
  refine Ends.st (b := (1, _, _, _, 0, 0)) (s_aloadN d1_0 rfl rfl) ?_
  refine Ends.st (b := (4, _, _, _, 0, 0)) (s_initO (W := 0) (hw _ (List.mem_of_getElem? (i := 7) rfl)) (hw _ (List.mem_of_getElem? (i := 8) rfl)) (hw _ (List.mem_of_getElem? (i := 9) rfl)) d1_1 (by decide) rfl (by decide)) ?_
  refine Ends.st (b := (5, _, _, _, 0, 0)) (s_aloadN d1_4 rfl rfl) ?_
  refine Ends.st (b := (6, _, _, _, 0, 0)) (s_iloadN d1_5 rfl) ?_
  refine Ends.st (b := (9, _, [_, _], _, 0, 0)) (s_callS (W := 1) (hw _ (List.mem_of_getElem? (i := 10) rfl)) (hw _ (List.mem_of_getElem? (i := 11) rfl)) (hw _ (List.mem_of_getElem? (i := 3) rfl)) (hw _ (List.mem_of_getElem? (i := 12) rfl)) (by decide) (lenOf pd3 rfl) d1_6 (mwords hw _) rfl rfl (by decide) (by decide) (by decide) (by decide)) ?_
  rw [hq]
  refine Ends.st (b := (11, _, _, [.inl (_, [_, _, _, _, _, _]), _], 1, 64)) (s_newarray (j := 1) (q := q) (cap := 64) (hw _ (List.mem_of_getElem? (i := 13) rfl)) d1_9 rfl (nneg_of (by omega)) (tnc_of (by omega)) hc (by decide) (by decide) (by decide) rfl) ?_
  refine Ends.st (b := (14, _, _, [.inl (_, [_, _, _, _, _, _]), _], 1, 64)) (s_putfield (cid := 0) (i := 0) (hw _ (List.mem_of_getElem? (i := 14) rfl)) (kok0 hw) rfl (Or.inr ⟨(hw _ (List.mem_of_getElem? (i := 15) rfl)), rfl, rfl⟩) (hw _ (List.mem_of_getElem? (i := 2) rfl)) (ty := (.array .int)) (by decide) rfl rfl d1_11 rfl rfl rfl) ?_
  refine Ends.st (b := (15, _, _, _, 1, 64)) (s_aloadN d1_14 rfl rfl) ?_
  refine Ends.st (b := (16, _, _, _, 1, 64)) (s_aloadN d1_15 rfl rfl) ?_
  refine Ends.st (b := (19, _, _, _, 1, 64)) (s_getfield (cid := 0) (i := 0) (hw _ (List.mem_of_getElem? (i := 14) rfl)) rfl d1_16 rfl rfl) ?_
  refine Ends.st (b := (20, _, _, _, 1, 64)) (s_arraylength d1_19 rfl) ?_
  rw [List.length_replicate]
  refine Ends.st (b := (22, _, _, [.inl (_, [_, _, _, _, _, _]), _, _], 2, 128)) (s_newarray (j := 2) (q := q) (cap := 64) (hw _ (List.mem_of_getElem? (i := 13) rfl)) d1_20 rfl (nneg_of (by omega)) (tnc_of (by omega)) hc (by decide) (by decide) (by decide) rfl) ?_
  refine Ends.st (b := (25, _, _, [.inl (_, [_, _, _, _, _, _]), _, _], 2, 128)) (s_putfield (cid := 0) (i := 1) (hw _ (List.mem_of_getElem? (i := 16) rfl)) (kok0 hw) rfl (Or.inr ⟨(hw _ (List.mem_of_getElem? (i := 17) rfl)), rfl, rfl⟩) (hw _ (List.mem_of_getElem? (i := 2) rfl)) (ty := (.array .int)) (by decide) rfl rfl d1_22 rfl rfl rfl) ?_
  exact e_return d1_25 rfl (by decide) (by decide)
theorem mput {l : Launch} {Z : State} {a0 : Array Value} (hw : ∀ d ∈ tables_1, d.before a0 Z = true) {ρ : oM} {v2 v3 v4 v5 : Value} {ws is : List Value} (w i : Nat) (hw1 : w < 1000) (hi1 : i < 1000) (hi : i < ws.length) (hwl : w < is.length) : Met l Z CK ρ (⟨"com/example/honeyguide/honeyguide/service/Region", "putWord", "(II)V"⟩ : MethodName) prog_104_method_6_code 3 none ({ frames := 0, cells := 0, slots := 0, locals := 0 } : Room) [] [.ref 0, .int (Int32.ofNat w), .int (Int32.ofNat i)] [.inl (0, [.ref 1, .ref 2, v2, v3, v4, v5]), .inr (.int, ws), .inr (.int, is)] none [.inl (0, [.ref 1, .ref 2, v2, v3, v4, v5]), .inr (.int, ws.set i (.int (Int32.ofNat w))), .inr (.int, is.set w (.int (Int32.ofNat i)))] := by
  refine Met.of (L0 := [.val (.ref 0), .val (.int (Int32.ofNat w)), .val (.int (Int32.ofNat i))]) pn5 (oentry rfl) rfl ?_
  refine Ends.st (b := (1, _, _, _, 0, 0)) (s_aloadN d5_0 rfl rfl) ?_
  refine Ends.st (b := (4, _, _, _, 0, 0)) (s_getfield (cid := 0) (i := 0) (hw _ (List.mem_of_getElem? (i := 14) rfl)) rfl d5_1 rfl rfl) ?_
  refine Ends.st (b := (5, _, _, _, 0, 0)) (s_iloadN d5_4 rfl) ?_
  refine Ends.st (b := (6, _, _, _, 0, 0)) (s_iloadN d5_5 rfl) ?_
  refine Ends.st (b := (7, _, _, [_, .inr (_, ws.set i _), _], 0, 0)) (s_iastore d5_6 rfl (nneg_of (by omega)) (by rw [tnc_of (by omega)]; exact hi) (by rw [tnc_of (by omega)]; rfl)) ?_
  refine Ends.st (b := (8, _, _, _, 0, 0)) (s_aloadN d5_7 rfl rfl) ?_
  refine Ends.st (b := (11, _, _, _, 0, 0)) (s_getfield (cid := 0) (i := 1) (hw _ (List.mem_of_getElem? (i := 16) rfl)) rfl d5_8 rfl rfl) ?_
  refine Ends.st (b := (12, _, _, _, 0, 0)) (s_iloadN d5_11 rfl) ?_
  refine Ends.st (b := (13, _, _, _, 0, 0)) (s_iloadN d5_12 rfl) ?_
  refine Ends.st (b := (14, _, _, [_, _, .inr (_, is.set w _)], 0, 0)) (s_iastore d5_13 rfl (nneg_of (by omega)) (by rw [tnc_of (by omega)]; exact hwl) (by rw [tnc_of (by omega)]; rfl)) ?_
  exact e_return d5_14 rfl (by decide) (by decide)
theorem srTurn {l : Launch} {Z : State} {a0 : Array Value} (hw : ∀ d ∈ tables_1, d.before a0 Z = true) {ρ : oM} {f e q : Nat} {f0 e0 g0 : Int32} (hf : f < e) (he : e ≤ 64 * q) (hq : q ≤ 1000) (t : Nat) (ws is : List Value) (ht : f / 64 + t ≤ (e - 1) / 64) (h1 : ws.length = q) (h2 : is.length = q) : Sim l Z CK ρ "com/example/honeyguide/honeyguide/service/Region" "setRange" prog_104_method_3_code 4 ({ frames := 1, cells := 0, slots := 0, locals := 14 } : Room) (10, [.val (.ref 0), .val (.int (Int32.ofNat f)), .val (.int (Int32.ofNat e)), .val (.int (Int32.ofNat (f / 64 + t)))], [], [.inl (0, [.ref 1, .ref 2, .int (Int32.ofNat (t)), .int f0, .int e0, .int g0]), .inr (.int, ws), .inr (.int, is)], 0, 0) (10, [.val (.ref 0), .val (.int (Int32.ofNat f)), .val (.int (Int32.ofNat e)), .val (.int (Int32.ofNat (f / 64 + (t + 1))))], [], [.inl (0, [.ref 1, .ref 2, .int (Int32.ofNat ((t + 1))), .int f0, .int e0, .int g0]), .inr (.int, ws.set t (.int (Int32.ofNat (f / 64 + t)))), .inr (.int, is.set (f / 64 + t) (.int (Int32.ofNat t)))], 0, 0) := by
  have hb : (e - 1) / 64 < q := by omega
  refine Sim.tr (b := (11, _, _, _, 0, 0)) (s_iloadN d4_10 rfl) ?_
  refine Sim.tr (b := (12, _, _, _, 0, 0)) (s_iloadN d4_11 rfl) ?_
  refine Sim.tr (b := (13, _, _, _, 0, 0)) (s_iconst (z := 1) d4_12 rfl) ?_
  refine Sim.tr (b := (14, _, _, _, 0, 0)) (s_isub d4_13) ?_
  refine Sim.tr (b := (16, _, _, _, 0, 0)) (s_bipush (z := 6) d4_14 (by decide)) ?_
  refine Sim.tr (b := (17, _, _, _, 0, 0)) (s_iushr d4_16) ?_
  rw [of_sub1 (by omega) (by omega), of_ushr6 (by omega)]
  refine Sim.tr (b := (20, _, _, _, 0, 0)) (s_icmp_gt_f d4_17 (fun z => by rw [lt_of (by omega) (by omega)] at z; omega)) ?_
  refine Sim.tr (b := (21, _, _, _, 0, 0)) (s_aloadN d4_20 rfl rfl) ?_
  refine Sim.tr (b := (22, _, _, _, 0, 0)) (s_iloadN d4_21 rfl) ?_
  refine Sim.tr (b := (23, _, _, _, 0, 0)) (s_aloadN d4_22 rfl rfl) ?_
  refine Sim.tr (b := (24, _, _, _, 0, 0)) (s_dup d4_23 rfl) ?_
  refine Sim.tr (b := (27, _, _, _, 0, 0)) (s_getfield (cid := 0) (i := 2) (hw _ (List.mem_of_getElem? (i := 23) rfl)) rfl d4_24 rfl rfl) ?_
  refine Sim.tr (b := (28, _, _, _, 0, 0)) (s_dupX1 d4_27 rfl rfl) ?_
  refine Sim.tr (b := (29, _, _, _, 0, 0)) (s_iconst (z := 1) d4_28 rfl) ?_
  refine Sim.tr (b := (30, _, _, _, 0, 0)) (s_iadd d4_29) ?_
  rw [show Int32.ofNat t + 1 = Int32.ofNat (t + 1) from (Int32.ofNat_add t 1).symm]
  refine Sim.tr (b := (33, _, _, [.inl (_, [_, _, _, _, _, _]), _, _], 0, 0)) (s_putfield (cid := 0) (i := 2) (hw _ (List.mem_of_getElem? (i := 23) rfl)) (kok0 hw) rfl (Or.inl (hw _ (List.mem_of_getElem? (i := 24) rfl))) (hw _ (List.mem_of_getElem? (i := 2) rfl)) (ty := .int) (by decide) rfl rfl d4_30 rfl rfl rfl) ?_
  refine Sim.tr (b := (36, _, [], _, 0, 0)) (s_callP (W := 0) (cid := 0) (hw _ (List.mem_of_getElem? (i := 25) rfl)) (hw _ (List.mem_of_getElem? (i := 26) rfl)) (hw _ (List.mem_of_getElem? (i := 3) rfl)) (hw _ (List.mem_of_getElem? (i := 28) rfl)) (hw _ (List.mem_of_getElem? (i := 27) rfl)) (hw _ (List.mem_of_getElem? (i := 2) rfl)) (by decide) (lenOf pd5 rfl) d4_33 rfl (mput hw (f / 64 + t) t (by omega) (by omega) (by omega) (by omega)) rfl rfl (by decide) (by decide) (by decide) (by decide)) ?_
  refine Sim.tr (b := (39, [_, _, _, _], _, _, 0, 0)) (s_iinc (z' := (Int32.ofNat (f / 64 + (t + 1)))) d4_36 rfl (one_up (f / 64 + t)) rfl) ?_
  refine Sim.tr (b := (10, _, _, _, 0, 0)) (s_goto d4_39 (by decide) (by decide)) ?_
  exact Sim.rf _
theorem srExit {l : Launch} {Z : State} {a0 : Array Value} (hw : ∀ d ∈ tables_1, d.before a0 Z = true) {ρ : oM} {f e q : Nat} {f0 e0 g0 : Int32} (hf : f < e) (he : e ≤ 64 * q) (hq : q ≤ 1000) (ws is : List Value) (h1 : ws.length = q) (h2 : is.length = q) : Ends l Z CK ρ "com/example/honeyguide/honeyguide/service/Region" "setRange" prog_104_method_3_code 4 ({ frames := 1, cells := 0, slots := 0, locals := 14 } : Room) none (10, [.val (.ref 0), .val (.int (Int32.ofNat f)), .val (.int (Int32.ofNat e)), .val (.int (Int32.ofNat (f / 64 + ((e - 1) / 64 - f / 64 + 1))))], [], [.inl (0, [.ref 1, .ref 2, .int (Int32.ofNat (((e - 1) / 64 - f / 64 + 1))), .int f0, .int e0, .int g0]), .inr (.int, ws), .inr (.int, is)], 0, 0) none [.inl (0, [.ref 1, .ref 2, .int (Int32.ofNat ((e - 1) / 64 - f / 64 + 1)), .int (Int32.ofNat f), .int (Int32.ofNat e), .int 1]), .inr (.int, ws), .inr (.int, is)] := by
  refine Ends.st (b := (11, _, _, _, 0, 0)) (s_iloadN d4_10 rfl) ?_
  refine Ends.st (b := (12, _, _, _, 0, 0)) (s_iloadN d4_11 rfl) ?_
  refine Ends.st (b := (13, _, _, _, 0, 0)) (s_iconst (z := 1) d4_12 rfl) ?_
  refine Ends.st (b := (14, _, _, _, 0, 0)) (s_isub d4_13) ?_
  refine Ends.st (b := (16, _, _, _, 0, 0)) (s_bipush (z := 6) d4_14 (by decide)) ?_
  refine Ends.st (b := (17, _, _, _, 0, 0)) (s_iushr d4_16) ?_
  rw [of_sub1 (by omega) (by omega), of_ushr6 (by omega)]
  refine Ends.st (b := (42, _, _, _, 0, 0)) (s_icmp_gt_t d4_17 ((lt_of (by omega) (by omega)).mpr (by omega)) (by decide) (by decide)) ?_
  refine Ends.st (b := (43, _, _, _, 0, 0)) (s_aloadN d4_42 rfl rfl) ?_
  refine Ends.st (b := (44, _, _, _, 0, 0)) (s_iloadN d4_43 rfl) ?_
  refine Ends.st (b := (47, _, _, [.inl (_, [_, _, _, _, _, _]), _, _], 0, 0)) (s_putfield (cid := 0) (i := 3) (hw _ (List.mem_of_getElem? (i := 29) rfl)) (kok0 hw) rfl (Or.inl (hw _ (List.mem_of_getElem? (i := 30) rfl))) (hw _ (List.mem_of_getElem? (i := 2) rfl)) (ty := .int) (by decide) rfl rfl d4_44 rfl rfl rfl) ?_
  refine Ends.st (b := (48, _, _, _, 0, 0)) (s_aloadN d4_47 rfl rfl) ?_
  refine Ends.st (b := (49, _, _, _, 0, 0)) (s_iloadN d4_48 rfl) ?_
  refine Ends.st (b := (52, _, _, [.inl (_, [_, _, _, _, _, _]), _, _], 0, 0)) (s_putfield (cid := 0) (i := 4) (hw _ (List.mem_of_getElem? (i := 31) rfl)) (kok0 hw) rfl (Or.inl (hw _ (List.mem_of_getElem? (i := 32) rfl))) (hw _ (List.mem_of_getElem? (i := 2) rfl)) (ty := .int) (by decide) rfl rfl d4_49 rfl rfl rfl) ?_
  refine Ends.st (b := (53, _, _, _, 0, 0)) (s_aloadN d4_52 rfl rfl) ?_
  refine Ends.st (b := (54, _, _, _, 0, 0)) (s_iconst (z := 1) d4_53 rfl) ?_
  refine Ends.st (b := (57, _, _, [.inl (_, [_, _, _, _, _, _]), _, _], 0, 0)) (s_putfieldZ (cid := 0) (i := 5) (hw _ (List.mem_of_getElem? (i := 33) rfl)) (kok0 hw) rfl (Or.inl (hw _ (List.mem_of_getElem? (i := 34) rfl))) (hw _ (List.mem_of_getElem? (i := 2) rfl)) rfl d4_54 rfl rfl rfl) ?_
  exact e_return d4_57 rfl (by decide) (by decide)
theorem srLoop {l : Launch} {Z : State} {a0 : Array Value} (hw : ∀ d ∈ tables_1, d.before a0 Z = true) {ρ : oM} {f e q : Nat} {f0 e0 g0 : Int32} (hf : f < e) (he : e ≤ 64 * q) (hq : q ≤ 1000) (d : Nat) : ∀ (t : Nat) (ws is : List Value), t + d = (e - 1) / 64 - f / 64 + 1 → ws.length = q → is.length = q → (0 < t → is[f / 64 + t - 1]? = some (.int (Int32.ofNat (t - 1)))) →
    ∃ ws' is', ws'.length = q ∧ is'.length = q ∧ is'[(e - 1) / 64]? = some (.int (Int32.ofNat ((e - 1) / 64 - f / 64))) ∧ Ends l Z CK ρ "com/example/honeyguide/honeyguide/service/Region" "setRange" prog_104_method_3_code 4 ({ frames := 1, cells := 0, slots := 0, locals := 14 } : Room) none (10, [.val (.ref 0), .val (.int (Int32.ofNat f)), .val (.int (Int32.ofNat e)), .val (.int (Int32.ofNat (f / 64 + t)))], [], [.inl (0, [.ref 1, .ref 2, .int (Int32.ofNat (t)), .int f0, .int e0, .int g0]), .inr (.int, ws), .inr (.int, is)], 0, 0) none [.inl (0, [.ref 1, .ref 2, .int (Int32.ofNat ((e - 1) / 64 - f / 64 + 1)), .int (Int32.ofNat f), .int (Int32.ofNat e), .int 1]), .inr (.int, ws'), .inr (.int, is')] := by
  have hb : (e - 1) / 64 < q := by omega
  have hfe : f / 64 ≤ (e - 1) / 64 := Nat.div_le_div_right (by omega)
  induction d with
  | zero =>
    intro t ws is ht h1 h2 h3
    obtain rfl : t = (e - 1) / 64 - f / 64 + 1 := by omega
    have h3' := h3 (by omega)
    rw [show f / 64 + ((e - 1) / 64 - f / 64 + 1) - 1 = (e - 1) / 64 by omega, show (e - 1) / 64 - f / 64 + 1 - 1 = (e - 1) / 64 - f / 64 by omega] at h3'
    exact ⟨ws, is, h1, h2, h3', srExit hw hf he hq ws is h1 h2⟩
  | succ d ih =>
    intro t ws is ht h1 h2 h3
    obtain ⟨ws', is', g1, g2, g3, hE⟩ := ih (t + 1) (ws.set t (.int (Int32.ofNat (f / 64 + t)))) (is.set (f / 64 + t) (.int (Int32.ofNat t))) (by omega) (by rw [List.length_set]; exact h1) (by rw [List.length_set]; exact h2) (fun _ => by
      rw [show f / 64 + (t + 1) - 1 = f / 64 + t by omega, List.getElem?_set_self (by omega)]; rfl)
    exact ⟨ws', is', g1, g2, g3, Ends.st (srTurn hw hf he hq t ws is (by omega) h1 h2) hE⟩
theorem srMet {l : Launch} {Z : State} {a0 : Array Value} (hw : ∀ d ∈ tables_1, d.before a0 Z = true) {ρ : oM} {f e q : Nat} {c0 f0 e0 g0 : Int32} (hf : f < e) (he : e ≤ 64 * q) (hq : q ≤ 1000) (ws is : List Value) (h1 : ws.length = q) (h2 : is.length = q) :
    ∃ ws' is', ws'.length = q ∧ is'.length = q ∧ is'[(e - 1) / 64]? = some (.int (Int32.ofNat ((e - 1) / 64 - f / 64))) ∧ Met l Z CK ρ (⟨"com/example/honeyguide/honeyguide/service/Region", "setRange", "(II)V"⟩ : MethodName) prog_104_method_3_code 4 none ({ frames := 1, cells := 0, slots := 0, locals := 14 } : Room) [] [.ref 0, .int (Int32.ofNat f), .int (Int32.ofNat e)] [.inl (0, [.ref 1, .ref 2, .int c0, .int f0, .int e0, .int g0]), .inr (.int, ws), .inr (.int, is)] none [.inl (0, [.ref 1, .ref 2, .int (Int32.ofNat ((e - 1) / 64 - f / 64 + 1)), .int (Int32.ofNat f), .int (Int32.ofNat e), .int 1]), .inr (.int, ws'), .inr (.int, is')] := by
  have hfe : f / 64 ≤ (e - 1) / 64 := Nat.div_le_div_right (by omega)
  obtain ⟨ws', is', g1, g2, g3, hE⟩ := srLoop (l := l) (ρ := ρ) hw (f0 := f0) (e0 := e0) (g0 := g0) hf he hq ((e - 1) / 64 - f / 64 + 1) 0 ws is (by omega) h1 h2 (fun z => absurd z (by omega))
  refine ⟨ws', is', g1, g2, g3, ?_⟩
  refine Met.of (L0 := [.val (.ref 0), .val (.int (Int32.ofNat f)), .val (.int (Int32.ofNat e)), .unset]) pn4 (oentry rfl) rfl ?_
  refine Ends.st (b := (1, _, _, _, 0, 0)) (s_aloadN d4_0 rfl rfl) ?_
  refine Ends.st (b := (2, _, _, _, 0, 0)) (s_iconst (z := 0) d4_1 rfl) ?_
  refine Ends.st (b := (5, _, _, [.inl (_, [_, _, _, _, _, _]), _, _], 0, 0)) (s_putfield (cid := 0) (i := 2) (hw _ (List.mem_of_getElem? (i := 23) rfl)) (kok0 hw) rfl (Or.inl (hw _ (List.mem_of_getElem? (i := 24) rfl))) (hw _ (List.mem_of_getElem? (i := 2) rfl)) (ty := .int) (by decide) rfl rfl d4_2 rfl rfl rfl) ?_
  refine Ends.st (b := (6, _, _, _, 0, 0)) (s_iloadN d4_5 rfl) ?_
  refine Ends.st (b := (8, _, _, _, 0, 0)) (s_bipush (z := 6) d4_6 (by decide)) ?_
  refine Ends.st (b := (9, _, _, _, 0, 0)) (s_iushr d4_8) ?_
  rw [of_ushr6 (by omega)]
  refine Ends.st (b := (10, [_, _, _, _], _, _, 0, 0)) (s_istoreN d4_9 rfl) ?_
  exact hE
/-! which positions -/
def pin1 (w f : Int32) : Int64 := if w = jushr f 6 then (-1) &&& jshlL (-1) f else -1
def pin (w f e : Int32) : Int64 := if w = jushr (e - 1) 6 then pin1 w f &&& jushrL (-1) (-e) else pin1 w f
theorem u64_m1 : u64 (-1 : Int64) = 2 ^ 64 - 1 := rfl
theorem tb_m1 {b : Nat} (h : b < 64) : (u64 (-1 : Int64)).testBit b = true := by rw [u64_m1, Nat.testBit_two_pow_sub_one]; simpa using h
theorem tb_shl {f b : Nat} (hf : f < 4294967296) (h : b < 64) : (u64 (jshlL (-1) (Int32.ofNat f))).testBit b = decide (f % 64 ≤ b) := by
  rw [u64_shl, u32_of f hf, ← Nat.shiftLeft_eq, show (18446744073709551616 : Nat) = 2 ^ 64 from rfl, Nat.testBit_mod_two_pow, Nat.testBit_shiftLeft]
  by_cases q : f % 64 ≤ b
  · simp only [h, q, decide_true, Bool.true_and]
    exact tb_m1 (by omega)
  · simp [q]
theorem u32_neg {e : Nat} (he : e < 4294967296) : u32 (-(Int32.ofNat e)) % 64 = (64 - e % 64) % 64 := by
  have h1 := c_ineg (Int32.ofNat e)
  have h2 := u32_toInt (-(Int32.ofNat e))
  have h3 := u32_toInt (Int32.ofNat e)
  rw [u32_of e he] at h3
  have h4 := u32_lt (-(Int32.ofNat e))
  split at h2 <;> split at h3 <;> omega
theorem tb_ushr {e b : Nat} (he : e < 4294967296) (h : b < 64) : (u64 (jushrL (-1) (-(Int32.ofNat e)))).testBit b = decide (e % 64 = 0 ∨ b < e % 64) := by
  rw [u64_ushr, u32_neg he, ← Nat.shiftRight_eq_div_pow, Nat.testBit_shiftRight, u64_m1, Nat.testBit_two_pow_sub_one]
  rw [decide_eq_decide]
  omega
theorem bit_eq (x : Int64) {b : Nat} (h : b < 64) : (jcmp (jushrL x (Int32.ofNat b) &&& 1) 0 = 0) ↔ (u64 x).testBit b = false := by
  rw [jcmp_eq]
  have e : u64 (jushrL x (Int32.ofNat b) &&& 1) = u64 x / 2 ^ b % 2 := by
    rw [u64_and, u64_ushr, u32_of b (by omega), Nat.mod_eq_of_lt h]
    exact Nat.and_two_pow_sub_one_eq_mod _ 1
  have e2 : (u64 x).testBit b = decide (u64 x / 2 ^ b % 2 = 1) := Nat.testBit_eq_decide_div_mod_eq
  rw [e2, decide_eq_false_iff_not]
  constructor
  · intro q z; rw [q] at e; have : u64 (0 : Int64) = 0 := rfl; omega
  · intro q; apply u64_inj; rw [e]; show _ = 0; omega
theorem pin_bit {W f e b : Nat} (hb : b < 64) (hf : f < e) (he : e ≤ 1000000) (h1 : f / 64 ≤ W) (h2 : W ≤ (e - 1) / 64) : (u64 (pin (Int32.ofNat W) (Int32.ofNat f) (Int32.ofNat e))).testBit b = decide (f ≤ W * 64 + b ∧ W * 64 + b < e) := by
  have g1 : (u64 (pin1 (Int32.ofNat W) (Int32.ofNat f))).testBit b = decide (f ≤ W * 64 + b) := by
    unfold pin1
    rw [of_ushr6 (by omega)]
    by_cases q : W = f / 64
    · rw [if_pos (by rw [q]), u64_and, Nat.testBit_and, tb_m1 hb, tb_shl (by omega) hb, Bool.true_and, decide_eq_decide]; omega
    · rw [if_neg (by rw [eq_of (by omega) (by omega)]; exact q), tb_m1 hb]
      symm; rw [decide_eq_true_eq]; omega
  unfold pin
  rw [of_sub1 (by omega) (by omega), of_ushr6 (by omega)]
  by_cases q : W = (e - 1) / 64
  · rw [if_pos (by rw [q]), u64_and, Nat.testBit_and, g1, tb_ushr (by omega) hb, ← Bool.decide_and, decide_eq_decide]; omega
  · rw [if_neg (by rw [eq_of (by omega) (by omega)]; exact q), g1, decide_eq_decide]; omega
theorem mpin {l : Launch} {Z : State} {a0 : Array Value} (hw : ∀ d ∈ tables_1, d.before a0 Z = true) {ρ : oM} {v2 v5 : Value} {c1 c2 : oC} (w f e : Int32) : Met l Z CK ρ (⟨"com/example/honeyguide/honeyguide/service/Region", "positionsIn", "(I)J"⟩ : MethodName) prog_104_method_13_code 4 (some .long) ({ frames := 0, cells := 0, slots := 0, locals := 0 } : Room) [] [.ref 0, .int w] [.inl (0, [.ref 1, .ref 2, v2, .int f, .int e, v5]), c1, c2] (some (.long (pin w f e))) [.inl (0, [.ref 1, .ref 2, v2, .int f, .int e, v5]), c1, c2] := by
  refine Met.of (L0 := [.val (.ref 0), .val (.int w), .unset, .unset]) pn6 (oentry rfl) rfl ?_
  refine Ends.st (b := (3, _, _, _, 0, 0)) (s_ldc2 (hw _ (List.mem_of_getElem? (i := 40) rfl)) d6_0) ?_
  refine Ends.st (b := (4, [_, _, _, _], _, _, 0, 0)) (s_lstoreN d6_3 rfl) ?_
  refine Ends.st (b := (5, _, _, _, 0, 0)) (s_iloadN d6_4 rfl) ?_
  refine Ends.st (b := (6, _, _, _, 0, 0)) (s_aloadN d6_5 rfl rfl) ?_
  refine Ends.st (b := (9, _, _, _, 0, 0)) (s_getfield (cid := 0) (i := 3) (hw _ (List.mem_of_getElem? (i := 29) rfl)) rfl d6_6 rfl rfl) ?_
  refine Ends.st (b := (11, _, _, _, 0, 0)) (s_bipush (z := 6) d6_9 (by decide)) ?_
  refine Ends.st (b := (12, _, _, _, 0, 0)) (s_iushr d6_11) ?_
  refine Ends.icmp_ne (pc' := 26) d6_12 (by decide) (by decide) (fun h1 => ?_) (fun h1 => ?_)
  · skip
    refine Ends.st (b := (27, _, _, _, 0, 0)) (s_iloadN d6_26 rfl) ?_
    refine Ends.st (b := (28, _, _, _, 0, 0)) (s_aloadN d6_27 rfl rfl) ?_
    refine Ends.st (b := (31, _, _, _, 0, 0)) (s_getfield (cid := 0) (i := 4) (hw _ (List.mem_of_getElem? (i := 31) rfl)) rfl d6_28 rfl rfl) ?_
    refine Ends.st (b := (32, _, _, _, 0, 0)) (s_iconst (z := 1) d6_31 rfl) ?_
    refine Ends.st (b := (33, _, _, _, 0, 0)) (s_isub d6_32) ?_
    refine Ends.st (b := (35, _, _, _, 0, 0)) (s_bipush (z := 6) d6_33 (by decide)) ?_
    refine Ends.st (b := (36, _, _, _, 0, 0)) (s_iushr d6_35) ?_
    refine Ends.icmp_ne (pc' := 51) d6_36 (by decide) (by decide) (fun h2 => ?_) (fun h2 => ?_)
    · skip
      rw [show pin w f e = _ by unfold pin pin1; first | rw [if_pos h1, if_pos h2] | rw [if_neg h1, if_pos h2] | rw [if_pos h1, if_neg h2] | rw [if_neg h1, if_neg h2]]
      refine Ends.st (b := (52, _, _, _, 0, 0)) (s_lloadN d6_51 rfl) ?_
      exact e_lreturn d6_52 rfl (by decide) (by decide)
    · skip
      refine Ends.st (b := (40, _, _, _, 0, 0)) (s_lloadN d6_39 rfl) ?_
      refine Ends.st (b := (43, _, _, _, 0, 0)) (s_ldc2 (hw _ (List.mem_of_getElem? (i := 40) rfl)) d6_40) ?_
      refine Ends.st (b := (44, _, _, _, 0, 0)) (s_aloadN d6_43 rfl rfl) ?_
      refine Ends.st (b := (47, _, _, _, 0, 0)) (s_getfield (cid := 0) (i := 4) (hw _ (List.mem_of_getElem? (i := 31) rfl)) rfl d6_44 rfl rfl) ?_
      refine Ends.st (b := (48, _, _, _, 0, 0)) (s_ineg d6_47) ?_
      refine Ends.st (b := (49, _, _, _, 0, 0)) (s_lushr d6_48) ?_
      refine Ends.st (b := (50, _, _, _, 0, 0)) (s_land d6_49) ?_
      refine Ends.st (b := (51, [_, _, _, _], _, _, 0, 0)) (s_lstoreN d6_50 rfl) ?_
      rw [show pin w f e = _ by unfold pin pin1; first | rw [if_pos h1, if_pos h2] | rw [if_neg h1, if_pos h2] | rw [if_pos h1, if_neg h2] | rw [if_neg h1, if_neg h2]]
      refine Ends.st (b := (52, _, _, _, 0, 0)) (s_lloadN d6_51 rfl) ?_
      exact e_lreturn d6_52 rfl (by decide) (by decide)
  · skip
    refine Ends.st (b := (16, _, _, _, 0, 0)) (s_lloadN d6_15 rfl) ?_
    refine Ends.st (b := (19, _, _, _, 0, 0)) (s_ldc2 (hw _ (List.mem_of_getElem? (i := 40) rfl)) d6_16) ?_
    refine Ends.st (b := (20, _, _, _, 0, 0)) (s_aloadN d6_19 rfl rfl) ?_
    refine Ends.st (b := (23, _, _, _, 0, 0)) (s_getfield (cid := 0) (i := 3) (hw _ (List.mem_of_getElem? (i := 29) rfl)) rfl d6_20 rfl rfl) ?_
    refine Ends.st (b := (24, _, _, _, 0, 0)) (s_lshl d6_23) ?_
    refine Ends.st (b := (25, _, _, _, 0, 0)) (s_land d6_24) ?_
    refine Ends.st (b := (26, [_, _, _, _], _, _, 0, 0)) (s_lstoreN d6_25 rfl) ?_
    refine Ends.st (b := (27, _, _, _, 0, 0)) (s_iloadN d6_26 rfl) ?_
    refine Ends.st (b := (28, _, _, _, 0, 0)) (s_aloadN d6_27 rfl rfl) ?_
    refine Ends.st (b := (31, _, _, _, 0, 0)) (s_getfield (cid := 0) (i := 4) (hw _ (List.mem_of_getElem? (i := 31) rfl)) rfl d6_28 rfl rfl) ?_
    refine Ends.st (b := (32, _, _, _, 0, 0)) (s_iconst (z := 1) d6_31 rfl) ?_
    refine Ends.st (b := (33, _, _, _, 0, 0)) (s_isub d6_32) ?_
    refine Ends.st (b := (35, _, _, _, 0, 0)) (s_bipush (z := 6) d6_33 (by decide)) ?_
    refine Ends.st (b := (36, _, _, _, 0, 0)) (s_iushr d6_35) ?_
    refine Ends.icmp_ne (pc' := 51) d6_36 (by decide) (by decide) (fun h2 => ?_) (fun h2 => ?_)
    · skip
      rw [show pin w f e = _ by unfold pin pin1; first | rw [if_pos h1, if_pos h2] | rw [if_neg h1, if_pos h2] | rw [if_pos h1, if_neg h2] | rw [if_neg h1, if_neg h2]]
      refine Ends.st (b := (52, _, _, _, 0, 0)) (s_lloadN d6_51 rfl) ?_
      exact e_lreturn d6_52 rfl (by decide) (by decide)
    · skip
      refine Ends.st (b := (40, _, _, _, 0, 0)) (s_lloadN d6_39 rfl) ?_
      refine Ends.st (b := (43, _, _, _, 0, 0)) (s_ldc2 (hw _ (List.mem_of_getElem? (i := 40) rfl)) d6_40) ?_
      refine Ends.st (b := (44, _, _, _, 0, 0)) (s_aloadN d6_43 rfl rfl) ?_
      refine Ends.st (b := (47, _, _, _, 0, 0)) (s_getfield (cid := 0) (i := 4) (hw _ (List.mem_of_getElem? (i := 31) rfl)) rfl d6_44 rfl rfl) ?_
      refine Ends.st (b := (48, _, _, _, 0, 0)) (s_ineg d6_47) ?_
      refine Ends.st (b := (49, _, _, _, 0, 0)) (s_lushr d6_48) ?_
      refine Ends.st (b := (50, _, _, _, 0, 0)) (s_land d6_49) ?_
      refine Ends.st (b := (51, [_, _, _, _], _, _, 0, 0)) (s_lstoreN d6_50 rfl) ?_
      rw [show pin w f e = _ by unfold pin pin1; first | rw [if_pos h1, if_pos h2] | rw [if_neg h1, if_pos h2] | rw [if_pos h1, if_neg h2] | rw [if_neg h1, if_neg h2]]
      refine Ends.st (b := (52, _, _, _, 0, 0)) (s_lloadN d6_51 rfl) ?_
      exact e_lreturn d6_52 rfl (by decide) (by decide)
theorem mask_n (x : Int32) : ∃ k : Nat, x &&& 2147483647 = Int32.ofNat k ∧ k < 2147483648 := by
  have e : u32 (x &&& 2147483647) = u32 x % 2147483648 := (u32_and x 2147483647).trans (Nat.and_two_pow_sub_one_eq_mod _ 31)
  exact ⟨_, i32_of e, by omega⟩
theorem of_rem {a b : Nat} (ha : a < 2147483648) (hb : b < 2147483648) (hb0 : 0 < b) : Int32.ofNat a % Int32.ofNat b = Int32.ofNat (a % b) := by
  apply Int32.toInt_inj.mp
  have := (c_irem (Int32.ofNat a) (Int32.ofNat b) b (toInt_of hb)).1 (by rw [toInt_of ha]; omega)
  have hlt := Nat.mod_lt a hb0
  rw [this, toInt_of ha, toInt_of (by omega)]; rfl
theorem of_sub {i j : Nat} (h : j ≤ i) (h2 : i < 2147483648) : Int32.ofNat i - Int32.ofNat j = Int32.ofNat (i - j) := by
  apply Int32.toInt_inj.mp
  have h3 := c_isub (Int32.ofNat i) (Int32.ofNat j)
  have h4 := rng32 (Int32.ofNat i - Int32.ofNat j)
  rw [toInt_of h2, toInt_of (show j < 2147483648 by omega)] at h3
  rw [toInt_of (show i - j < 2147483648 by omega)]; omega
theorem of_ne0 {i : Nat} (h : 0 < i) (h2 : i < 2147483648) : Int32.ofNat i ≠ 0 := by
  intro q; have := (eq_of h2 (j := 0) (by decide)).mp q; omega
theorem of_mul64 (i : Nat) : Int32.ofNat i * 64 = Int32.ofNat (i * 64) := (Int32.ofNat_mul i 64).symm
theorem of_words {p : Nat} (h : p < 1000000) : (Int32.ofNat p + 64 - 1) / 64 = Int32.ofNat ((p + 63) / 64) := by
  have e1 : Int32.ofNat p + 64 - 1 = Int32.ofNat (p + 63) := by
    rw [show Int32.ofNat p + 64 = Int32.ofNat (p + 64) from of_add p 64, of_sub1 (by omega) (by omega)]
    congr 1
  rw [e1]
  apply Int32.toInt_inj.mp
  have := (c_idiv (Int32.ofNat (p + 63)) 64 64 rfl (by decide)).1 (by rw [toInt_of (by omega)]; omega)
  rw [this, toInt_of (by omega), toInt_of (by omega)]; omega
theorem law_ok {l : Launch} {Z : State} {a0 : Array Value} (hw : ∀ d ∈ tables_1, d.before a0 Z = true) {ρ : oM} (a b d e g : Int32) : ∃ A2, Met l Z CK ρ x code maxLocals ret room_1 tables_1 [.int a, .int b, .int d, .int e, .int g] [] (some (.int 1)) A2 := by
  obtain ⟨P, eP, hP⟩ : ∃ P : Nat, (a &&& 4095) + 1 = Int32.ofNat P ∧ (0 < P ∧ P ≤ 4096) := by
    have e : u32 (a &&& 4095) = u32 a % 4096 := (u32_and a 4095).trans (Nat.and_two_pow_sub_one_eq_mod _ 12)
    refine ⟨u32 a % 4096 + 1, ?_, by omega, by omega⟩
    rw [i32_of e]; exact (Int32.ofNat_add _ 1).symm
  obtain ⟨kb, ekb, hkb⟩ := mask_n b
  obtain ⟨kd, ekd, hkd⟩ := mask_n d
  obtain ⟨ke, eke, hke⟩ := mask_n e
  obtain ⟨f, ef⟩ : ∃ f, f = kb % P := ⟨_, rfl⟩
  have hf : f < P := by rw [ef]; exact Nat.mod_lt _ hP.1
  obtain ⟨t, et⟩ : ∃ t, t = kd % (P - f) := ⟨_, rfl⟩
  have ht : t < P - f := by rw [et]; exact Nat.mod_lt _ (by omega)
  obtain ⟨E, eE⟩ : ∃ E, E = f + 1 + t := ⟨_, rfl⟩
  have hfe : f / 64 ≤ (E - 1) / 64 := Nat.div_le_div_right (by omega)
  obtain ⟨S, eS⟩ : ∃ S, S = (E - 1) / 64 - f / 64 + 1 := ⟨_, rfl⟩
  obtain ⟨W, eW⟩ : ∃ W, W = f / 64 + ke % S := ⟨_, rfl⟩
  have hW : ke % S < S := Nat.mod_lt _ (by omega)
  obtain ⟨bt, ebt, hbt⟩ : ∃ q : Nat, g &&& 63 = Int32.ofNat q ∧ q < 64 := by
    have e : u32 (g &&& 63) = u32 g % 64 := (u32_and g 63).trans (Nat.and_two_pow_sub_one_eq_mod _ 6)
    exact ⟨_, i32_of e, by omega⟩
  obtain ⟨ws', is', g1, g2, g3, hM⟩ := srMet (l := l) (ρ := ρ) hw (f := f) (e := E) (q := (P + 63) / 64) (c0 := 0) (f0 := 0) (e0 := 0) (g0 := 0) (by omega) (by omega) (by omega) (List.replicate ((P + 63) / 64) (.int 0)) (List.replicate ((P + 63) / 64) (.int 0)) (by simp) (by simp)
  have hbit := pin_bit (W := W) (f := f) (e := E) (b := bt) hbt (by omega) (by omega) (by omega) (by omega)

  refine Met.ofE (L0 := [.val (.int a), .val (.int b), .val (.int d), .val (.int e), .val (.int g), .unset, .unset, .unset, .unset, .unset, .unset, .unset, .unset, .unset, .unset, .unset, .unset, .unset]) pn0 (oentry rfl) rfl ?_
  refine EndsE.st (b := (1, _, _, _, 0, 0)) (s_iloadN at_0 rfl) ?_
  refine EndsE.st (b := (4, _, _, _, 0, 0)) (s_sipush (z := 4095) at_1 (by decide)) ?_
  refine EndsE.st (b := (5, _, _, _, 0, 0)) (s_iand at_4) ?_
  refine EndsE.st (b := (6, _, _, _, 0, 0)) (s_iconst (z := 1) at_5 rfl) ?_
  refine EndsE.st (b := (7, _, _, _, 0, 0)) (s_iadd at_6) ?_
  rw [eP]
  refine EndsE.st (b := (9, [_, _, _, _, _, _, _, _, _, _, _, _, _, _, _, _, _, _], _, _, 0, 0)) (s_istore at_7 rfl) ?_
  refine EndsE.st (b := (10, _, _, _, 0, 0)) (s_iloadN at_9 rfl) ?_
  refine EndsE.st (b := (12, _, _, _, 0, 0)) (s_ldc (hw _ (List.mem_of_getElem? (i := 0) rfl)) at_10) ?_
  refine EndsE.st (b := (13, _, _, _, 0, 0)) (s_iand at_12) ?_
  refine EndsE.st (b := (15, _, _, _, 0, 0)) (s_iload at_13 rfl) ?_
  refine EndsE.st (b := (16, _, _, _, 0, 0)) (s_irem at_15 (of_ne0 hP.1 (by omega))) ?_
  rw [ekb, of_rem hkb (by omega) hP.1, ← ef]
  refine EndsE.st (b := (18, [_, _, _, _, _, _, _, _, _, _, _, _, _, _, _, _, _, _], _, _, 0, 0)) (s_istore at_16 rfl) ?_
  refine EndsE.st (b := (20, _, _, _, 0, 0)) (s_iload at_18 rfl) ?_
  refine EndsE.st (b := (21, _, _, _, 0, 0)) (s_iconst (z := 1) at_20 rfl) ?_
  refine EndsE.st (b := (22, _, _, _, 0, 0)) (s_iadd at_21) ?_
  refine EndsE.st (b := (23, _, _, _, 0, 0)) (s_iloadN at_22 rfl) ?_
  refine EndsE.st (b := (25, _, _, _, 0, 0)) (s_ldc (hw _ (List.mem_of_getElem? (i := 0) rfl)) at_23) ?_
  refine EndsE.st (b := (26, _, _, _, 0, 0)) (s_iand at_25) ?_
  refine EndsE.st (b := (28, _, _, _, 0, 0)) (s_iload at_26 rfl) ?_
  refine EndsE.st (b := (30, _, _, _, 0, 0)) (s_iload at_28 rfl) ?_
  refine EndsE.st (b := (31, _, _, _, 0, 0)) (s_isub at_30) ?_
  rw [of_sub (by omega) (by omega)]
  refine EndsE.st (b := (32, _, _, _, 0, 0)) (s_irem at_31 (of_ne0 (by omega) (by omega))) ?_
  refine EndsE.st (b := (33, _, _, _, 0, 0)) (s_iadd at_32) ?_
  rw [ekd, of_rem hkd (by omega) (by omega), ← et, show Int32.ofNat f + 1 = Int32.ofNat (f + 1) from of_add f 1, of_add, ← eE]
  refine EndsE.st (b := (35, [_, _, _, _, _, _, _, _, _, _, _, _, _, _, _, _, _, _], _, _, 0, 0)) (s_istore at_33 rfl) ?_
  refine EndsE.st (b := (37, _, _, _, 0, 0)) (s_iload at_35 rfl) ?_
  refine EndsE.st (b := (39, _, _, _, 0, 0)) (s_bipush (z := 6) at_37 (by decide)) ?_
  refine EndsE.st (b := (40, _, _, _, 0, 0)) (s_iushr at_39) ?_
  rw [of_ushr6 (by omega)]
  refine EndsE.st (b := (42, [_, _, _, _, _, _, _, _, _, _, _, _, _, _, _, _, _, _], _, _, 0, 0)) (s_istore at_40 rfl) ?_
  refine EndsE.st (b := (44, _, _, _, 0, 0)) (s_iload at_42 rfl) ?_
  refine EndsE.st (b := (45, _, _, _, 0, 0)) (s_iconst (z := 1) at_44 rfl) ?_
  refine EndsE.st (b := (46, _, _, _, 0, 0)) (s_isub at_45) ?_
  refine EndsE.st (b := (48, _, _, _, 0, 0)) (s_bipush (z := 6) at_46 (by decide)) ?_
  refine EndsE.st (b := (49, _, _, _, 0, 0)) (s_iushr at_48) ?_
  refine EndsE.st (b := (51, _, _, _, 0, 0)) (s_iload at_49 rfl) ?_
  refine EndsE.st (b := (52, _, _, _, 0, 0)) (s_isub at_51) ?_
  refine EndsE.st (b := (53, _, _, _, 0, 0)) (s_iconst (z := 1) at_52 rfl) ?_
  refine EndsE.st (b := (54, _, _, _, 0, 0)) (s_iadd at_53) ?_
  rw [of_sub1 (by omega) (by omega), of_ushr6 (by omega), of_sub hfe (by omega), show Int32.ofNat ((E - 1) / 64 - f / 64) + 1 = Int32.ofNat ((E - 1) / 64 - f / 64 + 1) from of_add _ 1, ← eS]
  refine EndsE.st (b := (56, [_, _, _, _, _, _, _, _, _, _, _, _, _, _, _, _, _, _], _, _, 0, 0)) (s_istore at_54 rfl) ?_
  refine EndsE.st (b := (58, _, _, _, 0, 0)) (s_iload at_56 rfl) ?_
  refine EndsE.st (b := (59, _, _, _, 0, 0)) (s_iloadN at_58 rfl) ?_
  refine EndsE.st (b := (61, _, _, _, 0, 0)) (s_ldc (hw _ (List.mem_of_getElem? (i := 0) rfl)) at_59) ?_
  refine EndsE.st (b := (62, _, _, _, 0, 0)) (s_iand at_61) ?_
  refine EndsE.st (b := (64, _, _, _, 0, 0)) (s_iload at_62 rfl) ?_
  refine EndsE.st (b := (65, _, _, _, 0, 0)) (s_irem at_64 (of_ne0 (by omega) (by omega))) ?_
  refine EndsE.st (b := (66, _, _, _, 0, 0)) (s_iadd at_65) ?_
  rw [eke, of_rem hke (by omega) (by omega), of_add, ← eW]
  refine EndsE.st (b := (68, [_, _, _, _, _, _, _, _, _, _, _, _, _, _, _, _, _, _], _, _, 0, 0)) (s_istore at_66 rfl) ?_
  refine EndsE.st (b := (70, _, _, _, 0, 0)) (s_iload at_68 rfl) ?_
  refine EndsE.st (b := (72, _, _, _, 0, 0)) (s_bipush (z := 63) at_70 (by decide)) ?_
  refine EndsE.st (b := (73, _, _, _, 0, 0)) (s_iand at_72) ?_
  rw [ebt]
  refine EndsE.st (b := (75, [_, _, _, _, _, _, _, _, _, _, _, _, _, _, _, _, _, _], _, _, 0, 0)) (s_istore at_73 rfl) ?_
  refine EndsE.st (b := (78, _, _, [.inl (_, [_, _, _, _, _, _])], 1, 6)) (s_new (cid := 0) (j := 0) (vs := [.null, .null, .int 0, .int 0, .int 0, .int 0]) (hw _ (List.mem_of_getElem? (i := 1) rfl)) (hw _ (List.mem_of_getElem? (i := 2) rfl)) (hw _ (List.mem_of_getElem? (i := 3) rfl)) (kok0 hw) ⟨⟨(.array .int), by decide, rfl⟩, ⟨⟨(.array .int), by decide, rfl⟩, ⟨⟨.int, by decide, rfl⟩, ⟨⟨.int, by decide, rfl⟩, ⟨⟨.int, by decide, rfl⟩, ⟨⟨.boolean, by decide, rfl⟩, trivial⟩⟩⟩⟩⟩⟩ at_75 rfl (by decide) (by decide) rfl) ?_
  refine EndsE.st (b := (79, _, _, _, 1, 6)) (s_dup at_78 rfl) ?_
  refine EndsE.st (b := (81, _, _, _, 1, 6)) (s_iload at_79 rfl) ?_
  refine EndsE.st (b := (84, _, [_], _, 3, 134)) (s_callI (W := 1) rfl (hw _ (List.mem_of_getElem? (i := 4) rfl)) (hw _ (List.mem_of_getElem? (i := 5) rfl)) (hw _ (List.mem_of_getElem? (i := 3) rfl)) (hw _ (List.mem_of_getElem? (i := 6) rfl)) (by decide) (lenOf pd1 rfl) at_81 (minit hw _ ((P + 63) / 64) (of_words (by omega)) (by omega)) rfl rfl (by decide) (by decide) (by decide) (by decide)) ?_
  refine EndsE.st (b := (86, [_, _, _, _, _, _, _, _, _, _, _, _, _, _, _, _, _, _], _, _, 3, 134)) (s_astore at_84 rfl rfl) ?_
  refine EndsE.st (b := (88, _, _, _, 3, 134)) (s_aload at_86 rfl rfl) ?_
  refine EndsE.st (b := (90, _, _, _, 3, 134)) (s_iload at_88 rfl) ?_
  refine EndsE.st (b := (92, _, _, _, 3, 134)) (s_iload at_90 rfl) ?_
  refine EndsE.st (b := (95, _, [], _, 3, 134)) (s_callV (W := 0) (cid := 0) (hw _ (List.mem_of_getElem? (i := 18) rfl)) (hw _ (List.mem_of_getElem? (i := 20) rfl)) (hw _ (List.mem_of_getElem? (i := 3) rfl)) (hw _ (List.mem_of_getElem? (i := 22) rfl)) (hw _ (List.mem_of_getElem? (i := 19) rfl)) (hw _ (List.mem_of_getElem? (i := 21) rfl)) (by decide) rfl (lenOf pd4 rfl) at_92 rfl (hM) rfl rfl (by decide) (by decide) (by decide) (by decide)) ?_
  refine EndsE.st (b := (97, _, _, _, 3, 134)) (s_aload at_95 rfl rfl) ?_
  refine EndsE.st (b := (99, _, _, _, 3, 134)) (s_iload at_97 rfl) ?_
  refine EndsE.st (b := (102, _, [_], _, 3, 134)) (s_callV (W := 0) (cid := 0) (hw _ (List.mem_of_getElem? (i := 35) rfl)) (hw _ (List.mem_of_getElem? (i := 37) rfl)) (hw _ (List.mem_of_getElem? (i := 3) rfl)) (hw _ (List.mem_of_getElem? (i := 39) rfl)) (hw _ (List.mem_of_getElem? (i := 36) rfl)) (hw _ (List.mem_of_getElem? (i := 38) rfl)) (by decide) rfl (lenOf pd6 rfl) at_99 rfl (mpin hw _ _ _) rfl rfl (by decide) (by decide) (by decide) (by decide)) ?_
  refine EndsE.st (b := (104, [_, _, _, _, _, _, _, _, _, _, _, _, _, _, _, _, _, _], _, _, 3, 134)) (s_lstore at_102 rfl) ?_
  refine EndsE.st (b := (106, _, _, _, 3, 134)) (s_iload at_104 rfl) ?_
  refine EndsE.st (b := (108, _, _, _, 3, 134)) (s_bipush (z := 64) at_106 (by decide)) ?_
  refine EndsE.st (b := (109, _, _, _, 3, 134)) (s_imul at_108) ?_
  refine EndsE.st (b := (111, _, _, _, 3, 134)) (s_iload at_109 rfl) ?_
  refine EndsE.st (b := (112, _, _, _, 3, 134)) (s_iadd at_111) ?_
  rw [of_mul64, of_add]
  refine EndsE.st (b := (114, [_, _, _, _, _, _, _, _, _, _, _, _, _, _, _, _, _, _], _, _, 3, 134)) (s_istore at_112 rfl) ?_
  refine EndsE.st (b := (116, _, _, _, 3, 134)) (s_iload at_114 rfl) ?_
  refine EndsE.st (b := (118, _, _, _, 3, 134)) (s_iload at_116 rfl) ?_
  refine EndsE.icmp_gt (pc' := 132) at_118 (by decide) (by decide) (fun h1 => ?_) (fun h1 => ?_)
  · skip
    have k1 : ¬ (f ≤ W * 64 + bt ∧ W * 64 + bt < E) := fun z => by rw [lt_of (by omega) (by omega)] at h1; omega
    refine EndsE.st (b := (133, _, _, _, 3, 134)) (s_iconst (z := 0) at_132 rfl) ?_
    refine EndsE.st (b := (135, [_, _, _, _, _, _, _, _, _, _, _, _, _, _, _, _, _, _], _, _, 3, 134)) (s_istore at_133 rfl) ?_
    refine EndsE.st (b := (137, _, _, _, 3, 134)) (s_lload at_135 rfl) ?_
    refine EndsE.st (b := (139, _, _, _, 3, 134)) (s_iload at_137 rfl) ?_
    refine EndsE.st (b := (140, _, _, _, 3, 134)) (s_lushr at_139) ?_
    refine EndsE.st (b := (141, _, _, _, 3, 134)) (s_lconst (z := 1) at_140 rfl) ?_
    refine EndsE.st (b := (142, _, _, _, 3, 134)) (s_land at_141) ?_
    refine EndsE.st (b := (143, _, _, _, 3, 134)) (s_lconst (z := 0) at_142 rfl) ?_
    refine EndsE.st (b := (144, _, _, _, 3, 134)) (s_lcmp at_143) ?_
    refine EndsE.if_eq (pc' := 151) at_144 (by decide) (by decide) (fun h3 => ?_) (fun h3 => ?_)
    · skip
      rw [bit_eq _ hbt, hbit] at h3
      have k2 := of_decide_eq_false h3
      refine EndsE.st (b := (152, _, _, _, 3, 134)) (s_iconst (z := 0) at_151 rfl) ?_
      refine EndsE.st (b := (154, [_, _, _, _, _, _, _, _, _, _, _, _, _, _, _, _, _, _], _, _, 3, 134)) (s_istore at_152 rfl) ?_
      refine EndsE.st (b := (156, _, _, _, 3, 134)) (s_iload at_154 rfl) ?_
      refine EndsE.st (b := (158, _, _, _, 3, 134)) (s_iload at_156 rfl) ?_
      refine EndsE.st (b := (161, _, _, _, 3, 134)) (s_icmp_ne_f at_158 (by first | rfl | exact absurd k2 k1 | exact absurd k1 k2)) ?_
      refine EndsE.st (b := (162, _, _, _, 3, 134)) (s_iconst (z := 1) at_161 rfl) ?_
      refine EndsE.st (b := (166, _, _, _, 3, 134)) (s_goto at_162 (by decide) (by decide)) ?_
      exact ⟨_, e_nreturn at_166 rfl (by simp) rfl (by decide) (by decide)⟩
    · skip
      rw [bit_eq _ hbt, hbit] at h3
      have k2 : f ≤ W * 64 + bt ∧ W * 64 + bt < E := by simpa using h3
      refine EndsE.st (b := (148, _, _, _, 3, 134)) (s_iconst (z := 1) at_147 rfl) ?_
      refine EndsE.st (b := (152, _, _, _, 3, 134)) (s_goto at_148 (by decide) (by decide)) ?_
      refine EndsE.st (b := (154, [_, _, _, _, _, _, _, _, _, _, _, _, _, _, _, _, _, _], _, _, 3, 134)) (s_istore at_152 rfl) ?_
      refine EndsE.st (b := (156, _, _, _, 3, 134)) (s_iload at_154 rfl) ?_
      refine EndsE.st (b := (158, _, _, _, 3, 134)) (s_iload at_156 rfl) ?_
      refine EndsE.st (b := (161, _, _, _, 3, 134)) (s_icmp_ne_f at_158 (by first | rfl | exact absurd k2 k1 | exact absurd k1 k2)) ?_
      refine EndsE.st (b := (162, _, _, _, 3, 134)) (s_iconst (z := 1) at_161 rfl) ?_
      refine EndsE.st (b := (166, _, _, _, 3, 134)) (s_goto at_162 (by decide) (by decide)) ?_
      exact ⟨_, e_nreturn at_166 rfl (by simp) rfl (by decide) (by decide)⟩
  · skip
    refine EndsE.st (b := (123, _, _, _, 3, 134)) (s_iload at_121 rfl) ?_
    refine EndsE.st (b := (125, _, _, _, 3, 134)) (s_iload at_123 rfl) ?_
    refine EndsE.icmp_ge (pc' := 132) at_125 (by decide) (by decide) (fun h2 => ?_) (fun h2 => ?_)
    · skip
      have k1 : ¬ (f ≤ W * 64 + bt ∧ W * 64 + bt < E) := fun z => by rw [lt_of (by omega) (by omega)] at h2; omega
      refine EndsE.st (b := (133, _, _, _, 3, 134)) (s_iconst (z := 0) at_132 rfl) ?_
      refine EndsE.st (b := (135, [_, _, _, _, _, _, _, _, _, _, _, _, _, _, _, _, _, _], _, _, 3, 134)) (s_istore at_133 rfl) ?_
      refine EndsE.st (b := (137, _, _, _, 3, 134)) (s_lload at_135 rfl) ?_
      refine EndsE.st (b := (139, _, _, _, 3, 134)) (s_iload at_137 rfl) ?_
      refine EndsE.st (b := (140, _, _, _, 3, 134)) (s_lushr at_139) ?_
      refine EndsE.st (b := (141, _, _, _, 3, 134)) (s_lconst (z := 1) at_140 rfl) ?_
      refine EndsE.st (b := (142, _, _, _, 3, 134)) (s_land at_141) ?_
      refine EndsE.st (b := (143, _, _, _, 3, 134)) (s_lconst (z := 0) at_142 rfl) ?_
      refine EndsE.st (b := (144, _, _, _, 3, 134)) (s_lcmp at_143) ?_
      refine EndsE.if_eq (pc' := 151) at_144 (by decide) (by decide) (fun h3 => ?_) (fun h3 => ?_)
      · skip
        rw [bit_eq _ hbt, hbit] at h3
        have k2 := of_decide_eq_false h3
        refine EndsE.st (b := (152, _, _, _, 3, 134)) (s_iconst (z := 0) at_151 rfl) ?_
        refine EndsE.st (b := (154, [_, _, _, _, _, _, _, _, _, _, _, _, _, _, _, _, _, _], _, _, 3, 134)) (s_istore at_152 rfl) ?_
        refine EndsE.st (b := (156, _, _, _, 3, 134)) (s_iload at_154 rfl) ?_
        refine EndsE.st (b := (158, _, _, _, 3, 134)) (s_iload at_156 rfl) ?_
        refine EndsE.st (b := (161, _, _, _, 3, 134)) (s_icmp_ne_f at_158 (by first | rfl | exact absurd k2 k1 | exact absurd k1 k2)) ?_
        refine EndsE.st (b := (162, _, _, _, 3, 134)) (s_iconst (z := 1) at_161 rfl) ?_
        refine EndsE.st (b := (166, _, _, _, 3, 134)) (s_goto at_162 (by decide) (by decide)) ?_
        exact ⟨_, e_nreturn at_166 rfl (by simp) rfl (by decide) (by decide)⟩
      · skip
        rw [bit_eq _ hbt, hbit] at h3
        have k2 : f ≤ W * 64 + bt ∧ W * 64 + bt < E := by simpa using h3
        refine EndsE.st (b := (148, _, _, _, 3, 134)) (s_iconst (z := 1) at_147 rfl) ?_
        refine EndsE.st (b := (152, _, _, _, 3, 134)) (s_goto at_148 (by decide) (by decide)) ?_
        refine EndsE.st (b := (154, [_, _, _, _, _, _, _, _, _, _, _, _, _, _, _, _, _, _], _, _, 3, 134)) (s_istore at_152 rfl) ?_
        refine EndsE.st (b := (156, _, _, _, 3, 134)) (s_iload at_154 rfl) ?_
        refine EndsE.st (b := (158, _, _, _, 3, 134)) (s_iload at_156 rfl) ?_
        refine EndsE.st (b := (161, _, _, _, 3, 134)) (s_icmp_ne_f at_158 (by first | rfl | exact absurd k2 k1 | exact absurd k1 k2)) ?_
        refine EndsE.st (b := (162, _, _, _, 3, 134)) (s_iconst (z := 1) at_161 rfl) ?_
        refine EndsE.st (b := (166, _, _, _, 3, 134)) (s_goto at_162 (by decide) (by decide)) ?_
        exact ⟨_, e_nreturn at_166 rfl (by simp) rfl (by decide) (by decide)⟩
    · skip
      have k1 : f ≤ W * 64 + bt ∧ W * 64 + bt < E := by rw [lt_of (by omega) (by omega)] at h1 h2; omega
      refine EndsE.st (b := (129, _, _, _, 3, 134)) (s_iconst (z := 1) at_128 rfl) ?_
      refine EndsE.st (b := (133, _, _, _, 3, 134)) (s_goto at_129 (by decide) (by decide)) ?_
      refine EndsE.st (b := (135, [_, _, _, _, _, _, _, _, _, _, _, _, _, _, _, _, _, _], _, _, 3, 134)) (s_istore at_133 rfl) ?_
      refine EndsE.st (b := (137, _, _, _, 3, 134)) (s_lload at_135 rfl) ?_
      refine EndsE.st (b := (139, _, _, _, 3, 134)) (s_iload at_137 rfl) ?_
      refine EndsE.st (b := (140, _, _, _, 3, 134)) (s_lushr at_139) ?_
      refine EndsE.st (b := (141, _, _, _, 3, 134)) (s_lconst (z := 1) at_140 rfl) ?_
      refine EndsE.st (b := (142, _, _, _, 3, 134)) (s_land at_141) ?_
      refine EndsE.st (b := (143, _, _, _, 3, 134)) (s_lconst (z := 0) at_142 rfl) ?_
      refine EndsE.st (b := (144, _, _, _, 3, 134)) (s_lcmp at_143) ?_
      refine EndsE.if_eq (pc' := 151) at_144 (by decide) (by decide) (fun h3 => ?_) (fun h3 => ?_)
      · skip
        rw [bit_eq _ hbt, hbit] at h3
        have k2 := of_decide_eq_false h3
        refine EndsE.st (b := (152, _, _, _, 3, 134)) (s_iconst (z := 0) at_151 rfl) ?_
        refine EndsE.st (b := (154, [_, _, _, _, _, _, _, _, _, _, _, _, _, _, _, _, _, _], _, _, 3, 134)) (s_istore at_152 rfl) ?_
        refine EndsE.st (b := (156, _, _, _, 3, 134)) (s_iload at_154 rfl) ?_
        refine EndsE.st (b := (158, _, _, _, 3, 134)) (s_iload at_156 rfl) ?_
        refine EndsE.st (b := (161, _, _, _, 3, 134)) (s_icmp_ne_f at_158 (by first | rfl | exact absurd k2 k1 | exact absurd k1 k2)) ?_
        refine EndsE.st (b := (162, _, _, _, 3, 134)) (s_iconst (z := 1) at_161 rfl) ?_
        refine EndsE.st (b := (166, _, _, _, 3, 134)) (s_goto at_162 (by decide) (by decide)) ?_
        exact ⟨_, e_nreturn at_166 rfl (by simp) rfl (by decide) (by decide)⟩
      · skip
        rw [bit_eq _ hbt, hbit] at h3
        have k2 : f ≤ W * 64 + bt ∧ W * 64 + bt < E := by simpa using h3
        refine EndsE.st (b := (148, _, _, _, 3, 134)) (s_iconst (z := 1) at_147 rfl) ?_
        refine EndsE.st (b := (152, _, _, _, 3, 134)) (s_goto at_148 (by decide) (by decide)) ?_
        refine EndsE.st (b := (154, [_, _, _, _, _, _, _, _, _, _, _, _, _, _, _, _, _, _], _, _, 3, 134)) (s_istore at_152 rfl) ?_
        refine EndsE.st (b := (156, _, _, _, 3, 134)) (s_iload at_154 rfl) ?_
        refine EndsE.st (b := (158, _, _, _, 3, 134)) (s_iload at_156 rfl) ?_
        refine EndsE.st (b := (161, _, _, _, 3, 134)) (s_icmp_ne_f at_158 (by first | rfl | exact absurd k2 k1 | exact absurd k1 k2)) ?_
        refine EndsE.st (b := (162, _, _, _, 3, 134)) (s_iconst (z := 1) at_161 rfl) ?_
        refine EndsE.st (b := (166, _, _, _, 3, 134)) (s_goto at_162 (by decide) (by decide)) ?_
        exact ⟨_, e_nreturn at_166 rfl (by simp) rfl (by decide) (by decide)⟩
set_option maxRecDepth 65536 in
set_option maxHeartbeats 40000000 in
theorem comes_1 {Post : Tables → Env → Array Value → State → Outcome → State → Prop} (hpost : ∀ tb e args s v u, (limb_1_1.after args s (.returned v) u = true ∧ limb_1_2.after args s (.returned v) u = true ∧ True) → FrameEnd s (.returned v) u (Jvm.fieldLocs frame_1_writes args s ++ Jvm.arrayLocs frame_1_arrays args s ++ Jvm.staticLocs frame_1_statics s) 16 384 → Post tb e args s (.returned v) u) :
    ArmFor flags0 classFile x code maxLocals ret World_1 tables_1 room_1 Calls_1 rest_1 Pre_1 Post := by
  intro l hfl _ _ p e ha hc hk s m args below hf hA hF happ hP
  obtain ⟨hcalls, hrest, hpre⟩ := hP
  obtain ⟨-, -, -, hnamed, -, -, -, hat⟩ := (Spec.applies_iff hf).mp happ
  obtain ⟨hg, hn⟩ := and_e (Cond.before_iff.mp (show (Jvm.Cond.and given_1 narrow_1).before args s = true from hpre))
  obtain ⟨g0, gg1⟩ := and_e hg
  obtain ⟨g1, gg2⟩ := and_e gg1
  obtain ⟨g2, gg3⟩ := and_e gg2
  obtain ⟨g3, gg4⟩ := and_e gg3
  obtain ⟨g4, gg5⟩ := and_e gg4
  obtain ⟨w0, w1, w2, w3, w4, rfl⟩ : ∃ w0 w1 w2 w3 w4 : Value, args = #[w0, w1, w2, w3, w4] := by
    have hs : args.size = 5 := by simpa [Cond.value, given_1] using g0
    obtain ⟨L⟩ := args
    match L, hs with
    | [w0, w1, w2, w3, w4], _ => exact ⟨w0, w1, w2, w3, w4, rfl⟩
  have hw := fun d (hd : d ∈ tables_1) => atoms_spec (ws := Jvm.Cond.code x code maxLocals ret :: tables_1) hat d (List.mem_cons_of_mem _ hd)
  obtain ⟨i0, ei0⟩ := is_v g1
  obtain rfl : w0 = (.int i0) := Option.some.inj ei0
  obtain ⟨i1, ei1⟩ := is_v g2
  obtain rfl : w1 = (.int i1) := Option.some.inj ei1
  obtain ⟨i2, ei2⟩ := is_v g3
  obtain rfl : w2 = (.int i2) := Option.some.inj ei2
  obtain ⟨i3, ei3⟩ := is_v g4
  obtain rfl : w3 = (.int i3) := Option.some.inj ei3
  obtain ⟨i4, ei4⟩ := is_v gg5
  obtain rfl : w4 = (.int i4) := Option.some.inj ei4
  obtain ⟨A2, hM⟩ := law_ok (l := l) hw (ρ := (fun k => s.heap.size + k, fun _ => 0)) i0 i1 i2 i3 i4
  obtain ⟨n, o, h1, h2, h3, v', L, rfl, ⟨rfl, N, -⟩, hq⟩ := hM s.heap ⟨⟨rfl, fun k _ => rfl, fun j k h => Nat.add_lt_add_left h _⟩, fun k c h => by simp at h⟩ p e ha hc hk s m _ below hf ((Spec.applies_iff_loose hf).mp happ).1 ⟨rfl, State.Warmed39.refl s, rfl⟩ trivial
  refine ⟨n, _, h1, h2, h3, hpost _ _ _ _ _ _ ⟨Cond.after_iff.mpr rfl, Cond.after_iff.mpr (eq_i res_at (Term.int_eval (1)) rfl), trivial⟩ ⟨hq.1, hq.2.1, (hq.2.2.sift fun y hy => Or.inr (N y hy)).mono (by decide) (by decide)⟩⟩
theorem main_1_1 : Claimed_1_1 := comes_1 fun _ _ _ _ _ _ h hF => ⟨h.1, hF⟩
theorem main_1_2 : Claimed_1_2 := comes_1 fun _ _ _ _ _ _ h hF => ⟨h.2.1, hF⟩
end Jvm.Pilot.@@N@@
namespace Jvm.Pilot.@@N@@
open Jvm Jvm.ClassFile Sem Op Lib Jvm.Free Jvm.Stand Jvm.Pilot.@@N@@.Jvm.D
/-! MADE BY PROGRAM (witnessworld.py) out of the Statement's table words and the real class files: 9 classes; the members and pool entries that the words name. The judged class is class 1, her method 1. -/
namespace start1
open Jvm.ClassFile
def u (s : String) : CpInfo := .utf8 (stringToUtf16 s)
/-- a pool by its gaps: so many unusable entries, then the entry; so many at the end -/
def gap : Nat → List CpInfo → List CpInfo
  | 0, r => r
  | n + 1, r => .unusable :: gap n r
def poolList (es : List (Nat × CpInfo)) (last : Nat) : List CpInfo := es.foldr (fun e r => gap e.1 (e.2 :: r)) (gap last [])
def pool (es : List (Nat × CpInfo)) (last : Nat) : Array CpInfo := ⟨poolList es last⟩
def fileOf (pool : Array CpInfo) (this : Nat) (attrs : Array Attribute := #[]) (ms : Array MethodInfo := #[]) (fl : Nat := 33) (sup : Nat := 0) (ifs : Array Nat := #[]) (fds : Array FieldInfo := #[]) : ClassFile where
  minorVersion := 0
  majorVersion := 65
  constantPool := pool
  accessFlags := fl
  thisClass := this
  superClass := sup
  interfaces := ifs
  fields := fds
  methods := ms
  attributes := attrs
def plain (name : String) (sup : Option ClassId) : Class where
  name := name
  kind := .ordinary
  loader := none
  accessFlags := 33
  super := sup
  interfaces := #[]
  cf := none
  fields := #[]
  methods := #[]
  instanceTypes := #[]
  staticTypes := #[]
  resolved := #[]
  callSites := []
  init := .initialized
  statics := none
  mirror := none

def pool0 : Array CpInfo := pool [(5, u "<init>"), (0, u "()V"), (1, .class_ 10), (1, u "java/lang/Object")] 113

def k0c0 : Code := { maxStack := 0, maxLocals := 1, code := object_method_1_code, exceptionTable := #[], attributes := #[] }
def k0m0 : Method := { name := "<init>", desc := "()V", sig := { parameters := [], returnType := none }, accessFlags := 1, code := some k0c0 }
/-- java/lang/Object -/
def k0 : Class := { plain "java/lang/Object" none with
  accessFlags := 33
  interfaces := #[]
  cf := some (fileOf pool0 8 #[] #[{ accessFlags := 1, nameIndex := 5, descriptorIndex := 6, attributes := #[] }] 33 0 #[] #[])
  fields := #[]
  methods := #[k0m0]
  instanceTypes := #[]
  staticTypes := #[]
  resolved := Array.replicate 124 none
  statics := none }

def pool1 : Array CpInfo := pool [(2, .class_ 4), (1, u "java/lang/Object"), (0, u "<init>"), (0, u "()V"), (0, .integer 2147483647), (0, .class_ 9), (0, u "com/example/honeyguide/honeyguide/service/Region"), (0, .methodref 8 11), (0, .nameAndType 5 12), (0, u "(I)V"), (0, .methodref 8 14), (0, .nameAndType 15 16), (0, u "setRange"), (0, u "(II)V"), (0, .methodref 8 18), (0, .nameAndType 19 20), (0, u "positionsIn"), (0, u "(I)J"), (0, .class_ 22), (0, u "com/example/honeyguide/honeyguide/service/RegionPositionsInPinLaw"), (2, u "law"), (0, u "(IIIII)Z")] 3

def k1m0 : Method := { name := "<init>", desc := "()V", sig := { parameters := [], returnType := none }, accessFlags := 1, code := none }
def k1c1 : Code := { maxStack := 4, maxLocals := 18, code := code, exceptionTable := #[], attributes := #[] }
def k1m1 : Method := { name := "law", desc := "(IIIII)Z", sig := { parameters := [.int, .int, .int, .int, .int], returnType := some .boolean }, accessFlags := 9, code := some k1c1 }
/-- com/example/honeyguide/honeyguide/service/RegionPositionsInPinLaw -/
def k1 : Class := { plain "com/example/honeyguide/honeyguide/service/RegionPositionsInPinLaw" (some 0) with
  accessFlags := 49
  interfaces := #[]
  cf := some (fileOf pool1 21 #[] #[{ accessFlags := 1, nameIndex := 5, descriptorIndex := 6, attributes := #[] }, { accessFlags := 9, nameIndex := 25, descriptorIndex := 26, attributes := #[] }] 49 2 #[] #[])
  fields := #[]
  methods := #[k1m0, k1m1]
  instanceTypes := #[]
  staticTypes := #[]
  resolved := Array.replicate 30 none
  statics := none }

def pool2 : Array CpInfo := pool [(1, .methodref 2 3), (0, .class_ 4), (0, .nameAndType 5 6), (0, u "java/lang/Object"), (0, u "<init>"), (0, u "()V"), (0, .methodref 8 9), (0, .class_ 10), (0, .nameAndType 11 12), (0, u "com/example/honeyguide/honeyguide/service/Region"), (0, u "words"), (0, u "(I)I"), (0, .fieldref 8 14), (0, .nameAndType 11 15), (0, u "[I"), (0, .fieldref 8 17), (0, .nameAndType 18 15), (0, u "indexOf"), (2, .fieldref 8 22), (0, .nameAndType 23 24), (0, u "count"), (0, u "I"), (0, .methodref 8 26), (0, .nameAndType 27 28), (0, u "putWord"), (0, u "(II)V"), (0, .fieldref 8 30), (0, .nameAndType 31 24), (0, u "first"), (0, .fieldref 8 33), (0, .nameAndType 34 24), (0, u "end"), (0, .fieldref 8 36), (0, .nameAndType 37 38), (0, u "gapless"), (0, u "Z"), (16, .long 18446744073709551615), (15, u "(I)V"), (2, u "setRange"), (8, u "positionsIn"), (0, u "(I)J")] 9

def k2c0 : Code := { maxStack := 2, maxLocals := 2, code := prog_104_method_1_code, exceptionTable := #[], attributes := #[] }
def k2m0 : Method := { name := "<init>", desc := "(I)V", sig := { parameters := [.int], returnType := none }, accessFlags := 0, code := some k2c0 }
def k2c1 : Code := { maxStack := 2, maxLocals := 1, code := prog_104_method_2_code, exceptionTable := #[], attributes := #[] }
def k2m1 : Method := { name := "words", desc := "(I)I", sig := { parameters := [.int], returnType := some .int }, accessFlags := 8, code := some k2c1 }
def k2c2 : Code := { maxStack := 6, maxLocals := 4, code := prog_104_method_3_code, exceptionTable := #[], attributes := #[] }
def k2m2 : Method := { name := "setRange", desc := "(II)V", sig := { parameters := [.int, .int], returnType := none }, accessFlags := 0, code := some k2c2 }
def k2c3 : Code := { maxStack := 3, maxLocals := 3, code := prog_104_method_6_code, exceptionTable := #[], attributes := #[] }
def k2m3 : Method := { name := "putWord", desc := "(II)V", sig := { parameters := [.int, .int], returnType := none }, accessFlags := 2, code := some k2c3 }
def k2c4 : Code := { maxStack := 5, maxLocals := 4, code := prog_104_method_13_code, exceptionTable := #[], attributes := #[] }
def k2m4 : Method := { name := "positionsIn", desc := "(I)J", sig := { parameters := [.int], returnType := some .long }, accessFlags := 0, code := some k2c4 }
/-- com/example/honeyguide/honeyguide/service/Region -/
def k2 : Class := { plain "com/example/honeyguide/honeyguide/service/Region" (some 0) with
  accessFlags := 32
  interfaces := #[]
  cf := some (fileOf pool2 8 #[] #[{ accessFlags := 0, nameIndex := 5, descriptorIndex := 71, attributes := #[] }, { accessFlags := 8, nameIndex := 11, descriptorIndex := 12, attributes := #[] }, { accessFlags := 0, nameIndex := 74, descriptorIndex := 28, attributes := #[] }, { accessFlags := 2, nameIndex := 27, descriptorIndex := 28, attributes := #[] }, { accessFlags := 0, nameIndex := 83, descriptorIndex := 84, attributes := #[] }] 32 2 #[] #[{ accessFlags := 18, nameIndex := 11, descriptorIndex := 15, attributes := #[] }, { accessFlags := 18, nameIndex := 18, descriptorIndex := 15, attributes := #[] }, { accessFlags := 2, nameIndex := 23, descriptorIndex := 24, attributes := #[] }, { accessFlags := 2, nameIndex := 37, descriptorIndex := 38, attributes := #[] }, { accessFlags := 2, nameIndex := 31, descriptorIndex := 24, attributes := #[] }, { accessFlags := 2, nameIndex := 34, descriptorIndex := 24, attributes := #[] }])
  fields := #[{ name := "words", type := (.array .int), accessFlags := 18, slot := 0, constantValue := 0 }, { name := "indexOf", type := (.array .int), accessFlags := 18, slot := 1, constantValue := 0 }, { name := "count", type := .int, accessFlags := 2, slot := 2, constantValue := 0 }, { name := "gapless", type := .boolean, accessFlags := 2, slot := 3, constantValue := 0 }, { name := "first", type := .int, accessFlags := 2, slot := 4, constantValue := 0 }, { name := "end", type := .int, accessFlags := 2, slot := 5, constantValue := 0 }]
  methods := #[k2m0, k2m1, k2m2, k2m3, k2m4]
  instanceTypes := #[(.array .int), (.array .int), .int, .boolean, .int, .int]
  staticTypes := #[]
  resolved := Array.replicate 94 none
  statics := none }

def pool3 : Array CpInfo := pool [(1, u "java/lang/Cloneable"), (0, .class_ 1), (0, u "java/lang/Object"), (0, .class_ 3)] 3

/-- java/lang/Cloneable -/
def k3 : Class := { plain "java/lang/Cloneable" (some 0) with
  accessFlags := 1537
  interfaces := #[]
  cf := some (fileOf pool3 2 #[] #[] 1537 4 #[] #[])
  fields := #[]
  methods := #[]
  instanceTypes := #[]
  staticTypes := #[]
  resolved := Array.replicate 8 none
  statics := none }

def pool4 : Array CpInfo := pool [(1, u "java/io/Serializable"), (0, .class_ 1), (0, u "java/lang/Object"), (0, .class_ 3)] 3

/-- java/io/Serializable -/
def k4 : Class := { plain "java/io/Serializable" (some 0) with
  accessFlags := 1537
  interfaces := #[]
  cf := some (fileOf pool4 2 #[] #[] 1537 4 #[] #[])
  fields := #[]
  methods := #[]
  instanceTypes := #[]
  staticTypes := #[]
  resolved := Array.replicate 8 none
  statics := none }

/-- the primitive byte -/
def k5 : Class := { plain "byte" none with kind := .primitive 'B', accessFlags := 0x411 }
/-- [B -/
def k6 : Class := { plain "[B" (some 0) with kind := .array 5 .byte, interfaces := #[3, 4], accessFlags := 1041 }

/-- the primitive int -/
def k7 : Class := { plain "int" none with kind := .primitive 'I', accessFlags := 0x411 }
/-- [I -/
def k8 : Class := { plain "[I" (some 0) with kind := .array 7 .int, interfaces := #[3, 4], accessFlags := 1041 }

def heap : Heap := #[]
def classes : Array Class := #[k0, k1, k2, k3, k4, k5, k6, k7, k8]
def interned : List (Array UInt16 × Addr) := []
def slotsUsed : Nat := 0
def theMethod : MethodId := ⟨1, 1⟩
def args0 : Array Value := #[.int 70, .int 3, .int 5, .int 7, .int 8]
def aboutOver (below : List Frame) : State where
  vm := { classes := classes, interned := interned.toArray }
  heap := heap
  slotsUsed := slotsUsed
  threads := #[{ frames := .invoking theMethod args0 :: below }]
def below0 : List Frame := [.native { method := ⟨0, 0⟩, args := #[] }]
def about1 : State := aboutOver below0
def p0 : Program := .bare "" "" ""
def e0 : Env := launch0.env 0 0 0
theorem w_frames : about1.frames = Frame.invoking theMethod args0 :: below0 := rfl
set_option maxRecDepth 65536 in
theorem w_args : argsFit about1.vm theMethod args0 = true := by decide +kernel
set_option maxRecDepth 65536 in
theorem w_heap : heapFits about1 = true := by decide +kernel
set_option maxRecDepth 65536 in
theorem w_runnable : about1.curStatus? = some .runnable := by decide +kernel
set_option maxRecDepth 65536 in
theorem w_alone : about1.alone = true := by decide +kernel
set_option maxRecDepth 65536 in
theorem w_named : about1.methodNamed? x = some theMethod := by decide +kernel
set_option maxRecDepth 65536 in
theorem w_hears : about1.hears theMethod below0 = true := by decide +kernel
set_option maxRecDepth 65536 in
theorem w_ripe : about1.ripe theMethod args0 below0 = true := by decide +kernel
theorem w_running : about1.status = .running := rfl
set_option maxRecDepth 65536 in
theorem w_room : about1.hasRoom e0.platform room_1 = true :=
  launch0.hasRoom_least _ room_1 (by decide +kernel) (by decide +kernel) (by decide +kernel) (by decide +kernel) (by decide +kernel) (by decide +kernel)
theorem allAtoms_all (ts : List Jvm.Cond) (a : Array Jvm.Value) (st : Jvm.State) : (allAtoms ts).before a st = ts.all (fun c => c.before a st) := by
  induction ts with
  | nil => rfl
  | cons c t ih =>
    show (Jvm.Cond.and c (allAtoms t)).before a st = _
    rw [Jvm.Cond.before_and, ih, List.all_cons]
def words1 : List Jvm.Cond := Jvm.Cond.code x code maxLocals ret :: tables_1
/-- a 'code' word, met by the world's own term for the bytes: nothing is compared byte by byte -/
theorem code_word {y : MethodName} {bytes : ByteArray} {mx : Nat} {rt : Option FieldType} {a : Array Value} {s : State} {m : MethodId} {meth : Method} {c : Code} (h1 : s.methodNamed? y = some m) (h2 : s.vm.method? m = some meth) (h3 : meth.code = some c) (h4 : c.code = bytes)
    (h5 : (c.maxLocals == mx && c.exceptionTable.isEmpty && decide (c.maxStack ≤ mostOperands) && decide (meth.sig.returnType = rt) && !meth.locks && decide (parseMethodDescriptor y.desc = some meth.sig)) = true) : (Jvm.Cond.code y bytes mx rt).before a s = true := by
  simp only [Bool.and_eq_true, beq_iff_eq, Bool.not_eq_true', decide_eq_true_eq] at h5
  obtain ⟨⟨⟨⟨⟨g1, g2⟩, g3⟩, g4⟩, g5⟩, g6⟩ := h5
  simp [Cond.before, Cond.holds, Cond.value, h1, h2, h3, h4, g1, g2, g3, g4, g5, g6]
def isCode : Jvm.Cond → Bool
  | .code _ _ _ _ => true
  | _ => false
theorem all_split {L : List Jvm.Cond} {P : Jvm.Cond → Bool} (h1 : L.all (fun c => isCode c || P c) = true) (h2 : ∀ c ∈ L.filter isCode, P c = true) : L.all P = true := by
  refine List.all_eq_true.mpr fun c hc => ?_
  have h := List.all_eq_true.mp h1 c hc
  rcases Bool.eq_false_or_eq_true (isCode c) with hi | hi
  · exact h2 c (List.mem_filter.mpr ⟨hc, hi⟩)
  · simpa [hi] using h
set_option maxRecDepth 65536 in
theorem w_c0 : (Jvm.Cond.code x code maxLocals ret).before args0 about1 = true := code_word (m := ⟨1, 1⟩) (meth := k1m1) (c := k1c1) (by decide +kernel) rfl rfl rfl (by decide +kernel)
set_option maxRecDepth 65536 in
theorem w_c1 : (Jvm.Cond.code ({ cls := "com/example/honeyguide/honeyguide/service/Region", name := "<init>", desc := "(I)V" } : Jvm.MethodName) prog_104_method_1_code (2 : Nat) (Option.none : Option Jvm.ClassFile.FieldType)).before args0 about1 = true := code_word (m := ⟨2, 0⟩) (meth := k2m0) (c := k2c0) (by decide +kernel) rfl rfl rfl (by decide +kernel)
set_option maxRecDepth 65536 in
theorem w_c2 : (Jvm.Cond.code ({ cls := "java/lang/Object", name := "<init>", desc := "()V" } : Jvm.MethodName) object_method_1_code (1 : Nat) (Option.none : Option Jvm.ClassFile.FieldType)).before args0 about1 = true := code_word (m := ⟨0, 0⟩) (meth := k0m0) (c := k0c0) (by decide +kernel) rfl rfl rfl (by decide +kernel)
set_option maxRecDepth 65536 in
theorem w_c3 : (Jvm.Cond.code ({ cls := "com/example/honeyguide/honeyguide/service/Region", name := "words", desc := "(I)I" } : Jvm.MethodName) prog_104_method_2_code (1 : Nat) (Option.some Jvm.ClassFile.FieldType.int)).before args0 about1 = true := code_word (m := ⟨2, 1⟩) (meth := k2m1) (c := k2c1) (by decide +kernel) rfl rfl rfl (by decide +kernel)
set_option maxRecDepth 65536 in
theorem w_c4 : (Jvm.Cond.code ({ cls := "com/example/honeyguide/honeyguide/service/Region", name := "setRange", desc := "(II)V" } : Jvm.MethodName) prog_104_method_3_code (4 : Nat) (Option.none : Option Jvm.ClassFile.FieldType)).before args0 about1 = true := code_word (m := ⟨2, 2⟩) (meth := k2m2) (c := k2c2) (by decide +kernel) rfl rfl rfl (by decide +kernel)
set_option maxRecDepth 65536 in
theorem w_c5 : (Jvm.Cond.code ({ cls := "com/example/honeyguide/honeyguide/service/Region", name := "putWord", desc := "(II)V" } : Jvm.MethodName) prog_104_method_6_code (3 : Nat) (Option.none : Option Jvm.ClassFile.FieldType)).before args0 about1 = true := code_word (m := ⟨2, 3⟩) (meth := k2m3) (c := k2c3) (by decide +kernel) rfl rfl rfl (by decide +kernel)
set_option maxRecDepth 65536 in
theorem w_c6 : (Jvm.Cond.code ({ cls := "com/example/honeyguide/honeyguide/service/Region", name := "positionsIn", desc := "(I)J" } : Jvm.MethodName) prog_104_method_13_code (4 : Nat) (Option.some Jvm.ClassFile.FieldType.long)).before args0 about1 = true := code_word (m := ⟨2, 4⟩) (meth := k2m4) (c := k2c4) (by decide +kernel) rfl rfl rfl (by decide +kernel)
def codes1 : List Jvm.Cond := [Jvm.Cond.code x code maxLocals ret, Jvm.Cond.code ({ cls := "com/example/honeyguide/honeyguide/service/Region", name := "<init>", desc := "(I)V" } : Jvm.MethodName) prog_104_method_1_code (2 : Nat) (Option.none : Option Jvm.ClassFile.FieldType), Jvm.Cond.code ({ cls := "java/lang/Object", name := "<init>", desc := "()V" } : Jvm.MethodName) object_method_1_code (1 : Nat) (Option.none : Option Jvm.ClassFile.FieldType), Jvm.Cond.code ({ cls := "com/example/honeyguide/honeyguide/service/Region", name := "words", desc := "(I)I" } : Jvm.MethodName) prog_104_method_2_code (1 : Nat) (Option.some Jvm.ClassFile.FieldType.int), Jvm.Cond.code ({ cls := "com/example/honeyguide/honeyguide/service/Region", name := "setRange", desc := "(II)V" } : Jvm.MethodName) prog_104_method_3_code (4 : Nat) (Option.none : Option Jvm.ClassFile.FieldType), Jvm.Cond.code ({ cls := "com/example/honeyguide/honeyguide/service/Region", name := "putWord", desc := "(II)V" } : Jvm.MethodName) prog_104_method_6_code (3 : Nat) (Option.none : Option Jvm.ClassFile.FieldType), Jvm.Cond.code ({ cls := "com/example/honeyguide/honeyguide/service/Region", name := "positionsIn", desc := "(I)J" } : Jvm.MethodName) prog_104_method_13_code (4 : Nat) (Option.some Jvm.ClassFile.FieldType.long)]
set_option maxRecDepth 65536 in
theorem codes_eq : words1.filter isCode = codes1 := rfl
theorem w_codes : ∀ c ∈ words1.filter isCode, c.before args0 about1 = true := by
  rw [codes_eq]
  intro c hc
  simp only [codes1, List.mem_cons, List.not_mem_nil, or_false] at hc
  rcases hc with rfl | rfl | rfl | rfl | rfl | rfl | rfl
  · exact w_c0
  · exact w_c1
  · exact w_c2
  · exact w_c3
  · exact w_c4
  · exact w_c5
  · exact w_c6
set_option maxRecDepth 65536 in
theorem w_t1 : (words1.take 24).all (fun c => isCode c || c.before args0 about1) = true := by decide +kernel
set_option maxRecDepth 65536 in
theorem w_t2 : (words1.drop 24).all (fun c => isCode c || c.before args0 about1) = true := by decide +kernel
theorem w_tables : (allAtoms (Jvm.Cond.code x code maxLocals ret :: tables_1)).before args0 about1 = true := by
  rw [allAtoms_all]
  show words1.all (fun c => c.before args0 about1) = true
  refine all_split ?_ w_codes
  rw [← List.take_append_drop 24 words1, List.all_append, w_t1, w_t2]
  rfl
set_option maxRecDepth 65536 in
theorem w_case : (Jvm.Cond.and given_1 narrow_1).before args0 about1 = true := by decide +kernel
theorem w_applies : (headSpec (Jvm.Cond.code x code maxLocals ret :: tables_1) room_1).applies x e0.platform about1 = true :=
  (Spec.applies_iff w_frames).mpr ⟨w_running, w_runnable, w_alone, w_named, w_hears, w_ripe, w_room, w_tables⟩
theorem atStart : AtStart classFile x code maxLocals ret World_1 tables_1 room_1 Calls_1 rest_1 Pre_1 launch0 p0 e0 about1 theMethod args0 below0 :=
  ⟨lists_1, trivial, launch0.admits_env _ _ _, launch0.least_env, fairChoices_fair.cas, fairChoices_fair.clock, w_frames, w_args, w_heap, w_applies, trivial, trivial, w_case⟩
end start1
theorem witness_1 : WitnessClaimed_1 := ⟨start1.p0, start1.e0, start1.about1, start1.theMethod, start1.args0, start1.below0, start1.atStart⟩
end Jvm.Pilot.@@N@@
