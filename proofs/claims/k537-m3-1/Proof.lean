import JvmDerived
import JvmDerived.Pilot.@@N@@Statement
import JvmDerived.Pilot.@@N@@Code
set_option linter.unusedVariables false
set_option linter.unusedSimpArgs false
set_option maxHeartbeats 4000000
namespace Jvm.Pilot.@@N@@
open Jvm Jvm.ClassFile Sem Op Lib Jvm.Free Jvm.Stand Jvm.LawKit Jvm.RoadKit Bundle Jvm.Pilot.@@N@@.Jvm.D
/-! LAYER: an abstract walk over own objects (printed by wip/layer/mklayer.py) -/
abbrev oC : Type := (Nat × List Value) ⊕ (FieldType × List Value)
abbrev oH : Type := List oC
abbrev oK : Type := Nat → String × List (String × String × String)
abbrev oS : Type := Nat × List Slot × List Value × oH × Nat × Nat
/-- where the own objects lie, and others (written as return addresses, which no code here has) -/
abbrev oM : Type := (Nat → Nat) × (Nat → Nat)
def ov (ρ : oM) : Value → Value
  | .ref k => .ref (ρ.1 k)
  | .retAddr k => .ref (ρ.2 k)
  | v => v
def osl (ρ : oM) : Slot → Slot
  | .val v => .val (ov ρ v)
  | x => x
theorem ov_cat (ρ : oM) (v : Value) : (ov ρ v).category = v.category := by cases v <;> rfl
theorem ov_dflt (ρ : oM) (t : FieldType) : ov ρ (defaultValue t) = defaultValue t := by cases t <;> rfl
/-- what an own cell is, in the heap -/
def oR (Z : State) (K : oK) (ρ : oM) (h : Heap) (a : Addr) (c : oC) : Prop := match c with
  | .inl o => Exa Z h a (K o.1).1 ∧ ∀ (i : Nat) (f : String × String × String) (v : Value), (K o.1).2[i]? = some f → o.2[i]? = some v → Fld Z h a f.1 f.2.1 f.2.2 (ov ρ v)
  | .inr q => (q.2.length < 2 ^ 31 ∧ ∀ w ∈ q.2, fits q.1 (ov ρ w) = true) ∧ ∃ cl : Cell, Arr Z h a cl q.1 ∧ cl.slots = (q.2.map (ov ρ)).toArray
def oRep (Z : State) (K : oK) (ρ : oM) (h : Heap) (A : oH) : Prop := (h.size = ρ.1 A.length ∧ (∀ k, A.length ≤ k → ρ.1 (k + 1) = ρ.1 k + 1) ∧ ∀ j k, j < k → ρ.1 j < ρ.1 k) ∧ ∀ (k : Nat) (c : oC), A[k]? = some c → oR Z K ρ h (ρ.1 k) c
theorem oR.ext {Z : State} {K : oK} {ρ : oM} {h h' : Heap} {a : Addr} {c : oC} (E : Ext h h') (H : oR Z K ρ h a c) : oR Z K ρ h' a c := by
  rcases c with o | q
  · exact ⟨H.1.ext E, fun i f v h1 h2 => (H.2 i f v h1 h2).ext E⟩
  · obtain ⟨h1, cl, h2, h3⟩ := H
    exact ⟨h1, cl, h2.ext E, h3⟩
theorem oR.other {Z : State} {K : oK} {ρ : oM} {h h' : Heap} {a b : Addr} {sl : Nat} {v : Value} {c : oC} (W : Wr h h' a sl v) (hne : b ≠ a) (H : oR Z K ρ h b c) : oR Z K ρ h' b c := by
  rcases c with o | q
  · exact ⟨H.1.wr W, fun i f w h1 h2 => (H.2 i f w h1 h2).other W (Or.inl hne)⟩
  · obtain ⟨h1, cl, h2, h3⟩ := H
    exact ⟨h1, cl, h2.other W hne, h3⟩
theorem oRep.ne {Z : State} {K : oK} {ρ : oM} {h : Heap} {A : oH} (H : oRep Z K ρ h A) {j k : Nat} (q : j ≠ k) : ρ.1 j ≠ ρ.1 k := by
  rcases Nat.lt_or_gt_of_ne q with q | q
  · exact Nat.ne_of_lt (H.1.2.2 _ _ q)
  · exact Nat.ne_of_gt (H.1.2.2 _ _ q)
theorem oRep.ge {Z : State} {K : oK} {ρ : oM} {h : Heap} {A : oH} (H : oRep Z K ρ h A) (k : Nat) : ρ.1 0 ≤ ρ.1 k := by
  rcases Nat.eq_zero_or_pos k with q | q
  · rw [q]; exact Nat.le_refl _
  · exact Nat.le_of_lt (H.1.2.2 _ _ q)
theorem oRep.push {Z : State} {K : oK} {ρ : oM} {h h' : Heap} {A : oH} {c : oC} (H : oRep Z K ρ h A) (E : Ext h h') (hs : h'.size = h.size + 1) (hc : oR Z K ρ h' h.size c) : oRep Z K ρ h' (A ++ [c]) := by
  refine ⟨⟨by rw [hs, H.1.1, List.length_append]; exact (H.1.2.1 _ (Nat.le_refl _)).symm, fun k hk => H.1.2.1 k (by rw [List.length_append] at hk; omega), H.1.2.2⟩, fun k d hd => ?_⟩
  rcases Nat.lt_trichotomy k A.length with q | q | q
  · rw [List.getElem?_append_left q] at hd
    exact (H.2 k d hd).ext E
  · subst q
    simp at hd
    subst hd
    rw [← H.1.1]; exact hc
  · rw [List.getElem?_eq_none (by simp; omega)] at hd; cases hd
theorem oRep.wr {Z : State} {K : oK} {ρ : oM} {h h' : Heap} {A : oH} {c : oC} {k sl : Nat} {v : Value} (H : oRep Z K ρ h A) (W : Wr h h' (ρ.1 k) sl v) (hc : oR Z K ρ h' (ρ.1 k) c) : oRep Z K ρ h' (A.set k c) := by
  refine ⟨⟨by rw [W.size, H.1.1, List.length_set], by rw [List.length_set]; exact H.1.2.1, H.1.2.2⟩, fun j d hd => ?_⟩
  by_cases q : j = k
  · subst q
    by_cases hj : j < A.length
    · rw [List.getElem?_set_self hj] at hd; cases hd; exact hc
    · rw [List.getElem?_eq_none (by simp; omega)] at hd; cases hd
  · rw [List.getElem?_set_ne (Ne.symm q)] at hd
    exact (H.2 j d hd).other W (H.ne q)
/-- the fields that a class lays, with their words -/
def oLaid (Z : State) (a0 : Array Value) (C : String) : List (String × String × String) → Prop
  | [] => True
  | f :: fs => (Laid Z a0 C f.1 f.2.1 f.2.2 ∧ ∃ t, parseFieldDescriptor f.2.2 = some t) ∧ oLaid Z a0 C fs
theorem oLaid.at {Z : State} {a0 : Array Value} {C : String} : ∀ {fs : List (String × String × String)}, oLaid Z a0 C fs → ∀ (i : Nat) (f : String × String × String), fs[i]? = some f → Laid Z a0 C f.1 f.2.1 f.2.2 ∧ ∃ t, parseFieldDescriptor f.2.2 = some t
  | [], _, i, f, h => by simp at h
  | g :: gs, H, 0, f, h => by simp at h; subst h; exact H.1
  | g :: gs, H, i + 1, f, h => oLaid.at H.2 i f (by simpa using h)
def oDistinct (fs : List (String × String × String)) : Prop := ∀ (i j : Nat) (f g : String × String × String), fs[i]? = some f → fs[j]? = some g → i ≠ j → f.2.1 ≠ g.2.1
theorem oDistinct.of {fs : List (String × String × String)} (h : (fs.map fun f => f.2.1).Nodup) : oDistinct fs := fun i j f g hi hj hne e => by
  have h1 : (fs.map fun f => f.2.1)[i]? = some f.2.1 := by simp [hi]
  have h2 : (fs.map fun f => f.2.1)[j]? = some g.2.1 := by simp [hj]
  obtain ⟨q1, e1⟩ := List.getElem?_eq_some_iff.mp h1
  obtain ⟨q2, e2⟩ := List.getElem?_eq_some_iff.mp h2
  have hp := List.pairwise_iff_getElem.mp h
  rcases Nat.lt_or_gt_of_ne hne with q | q
  · exact hp i j q1 q2 q (by rw [e1, e2, e])
  · exact hp j i q2 q1 q (by rw [e1, e2, e])
def oKOk (Z : State) (a0 : Array Value) (K : oK) (cid : Nat) : Prop := oLaid Z a0 (K cid).1 (K cid).2 ∧ oDistinct (K cid).2
def oDflt : List (String × String × String) → List Value → Prop
  | [], [] => True
  | f :: fs, v :: vs => (∃ t, parseFieldDescriptor f.2.2 = some t ∧ v = defaultValue t) ∧ oDflt fs vs
  | _, _ => False
theorem oDflt.at : ∀ {fs : List (String × String × String)} {vs : List Value}, oDflt fs vs → ∀ (i : Nat) (f : String × String × String) (v : Value), fs[i]? = some f → vs[i]? = some v → ∃ t, parseFieldDescriptor f.2.2 = some t ∧ v = defaultValue t
  | [], [], _, i, f, v, h, _ => by simp at h
  | [], w :: ws, H, _, _, _, _, _ => H.elim
  | g :: gs, [], H, _, _, _, _, _ => H.elim
  | g :: gs, w :: ws, H, 0, f, v, h, h' => by simp at h h'; subst h h'; exact H.1
  | g :: gs, w :: ws, H, i + 1, f, v, h, h' => oDflt.at H.2 i f v (by simpa using h) (by simpa using h')
/-! the local variables -/
def oAt (L : List Slot) (i : Nat) (x : Slot) : Option (List Slot) := if i < L.length then some (L.set i x) else none
def oSelf (L : List Slot) (i : Nat) (v : Value) : Option (List Slot) :=
  (oAt L i (.val v)).bind fun L =>
  if v.category = 2 then
    (L[i + 1]?).bind fun x => match x with
      | .val old => if old.category = 2 then (oAt L (i + 2) .unset).bind fun L => oAt L (i + 1) .second else oAt L (i + 1) .second
      | .unset => oAt L (i + 1) .second
      | .second => oAt L (i + 1) .second
  else some L
def oSt (L : List Slot) (i : Nat) (v : Value) : Option (List Slot) :=
  (L[i]?).bind fun x => match x with
    | .second => (oAt L (i - 1) .unset).bind fun L => oSelf L i v
    | .val old => if old.category = 2 then (oAt L (i + 1) .unset).bind fun L => oSelf L i v else oSelf L i v
    | .unset => oSelf L i v
theorem oget {ρ : oM} {L : List Slot} {k : Nat} {x : Slot} (h : L[k]? = some x) : (L.map (osl ρ)).toArray[k]? = some (osl ρ x) := by simp [h]
theorem oAt_ok {ρ : oM} {L L' : List Slot} {i : Nat} {x : Slot} (h : oAt L i x = some L') : setAt (L.map (osl ρ)).toArray i (osl ρ x) = some (L'.map (osl ρ)).toArray ∧ L'.length = L.length := by
  unfold oAt at h
  split at h
  · rename_i hi
    cases h
    refine ⟨?_, by simp⟩
    have hi' : i < (L.map (osl ρ)).toArray.size := by simpa using hi
    have e : setAt (L.map (osl ρ)).toArray i (osl ρ x) = some ((L.map (osl ρ)).toArray.setIfInBounds i (osl ρ x)) := if_pos hi'
    rw [e]; simp
  · cases h
theorem oSelf_eq {l : Array Slot} {i : Nat} {v : Value} : storeSelf l i v = ((setAt l i (.val v)).bind fun l => if v.category = 2 then (l[i + 1]?).bind fun x => match x with
      | .val old => if old.category = 2 then (setAt l (i + 2) .unset).bind fun l => setAt l (i + 1) .second else setAt l (i + 1) .second
      | .unset => setAt l (i + 1) .second
      | .second => setAt l (i + 1) .second
  else some l) := by
  show (setAt l i (.val v)).bind _ = _
  cases setAt l i (.val v) with
  | none => rfl
  | some l =>
    show (if v.category = 2 then _ else _) = (if v.category = 2 then _ else _)
    split
    · show (l[i + 1]?).bind _ = (l[i + 1]?).bind _
      cases l[i + 1]? with
      | none => rfl
      | some x => cases x <;> rfl
    · rfl
theorem oSelf_ok {ρ : oM} {L L' : List Slot} {i : Nat} {v : Value} (h : oSelf L i v = some L') : storeSelf (L.map (osl ρ)).toArray i (ov ρ v) = some (L'.map (osl ρ)).toArray ∧ L'.length = L.length := by
  rw [oSelf_eq]
  unfold oSelf at h
  obtain ⟨L1, h1, h⟩ := Option.bind_eq_some_iff.mp h
  have q1 := oAt_ok (ρ := ρ) h1
  have q1' : setAt (L.map (osl ρ)).toArray i (.val (ov ρ v)) = some (L1.map (osl ρ)).toArray := q1.1
  rw [q1', ov_cat]
  show (if v.category = 2 then _ else _) = _ ∧ _
  split at h
  · rename_i hc
    rw [if_pos hc]
    obtain ⟨x, h2, h⟩ := Option.bind_eq_some_iff.mp h
    rw [oget h2]
    cases x with
    | unset => have q := oAt_ok (ρ := ρ) h; exact ⟨q.1, q.2.trans q1.2⟩
    | second => have q := oAt_ok (ρ := ρ) h; exact ⟨q.1, q.2.trans q1.2⟩
    | val old =>
      show (if (ov ρ old).category = 2 then _ else _) = _ ∧ _
      rw [ov_cat]
      dsimp only at h
      split at h
      · rename_i hc2
        rw [if_pos hc2]
        obtain ⟨L2, h3, h⟩ := Option.bind_eq_some_iff.mp h
        have q2 := oAt_ok (ρ := ρ) h3
        have q2' : setAt (L1.map (osl ρ)).toArray (i + 2) .unset = some (L2.map (osl ρ)).toArray := q2.1
        rw [q2']
        have q := oAt_ok (ρ := ρ) h
        exact ⟨q.1, (q.2.trans q2.2).trans q1.2⟩
      · rename_i hc2
        rw [if_neg hc2]
        have q := oAt_ok (ρ := ρ) h
        exact ⟨q.1, q.2.trans q1.2⟩
  · rename_i hc
    rw [if_neg hc]
    cases h
    exact ⟨rfl, q1.2⟩
theorem oSt_eq {l : Array Slot} {i : Nat} {v : Value} : storeLocals l i v = ((l[i]?).bind fun x => match x with
    | .second => (setAt l (i - 1) .unset).bind fun l => storeSelf l i v
    | .val old => if old.category = 2 then (setAt l (i + 1) .unset).bind fun l => storeSelf l i v else storeSelf l i v
    | .unset => storeSelf l i v) := by
  show (l[i]?).bind _ = (l[i]?).bind _
  cases l[i]? with
  | none => rfl
  | some x => cases x <;> rfl
theorem oSt_ok {ρ : oM} {L L' : List Slot} {i : Nat} {v : Value} (h : oSt L i v = some L') : storeLocals (L.map (osl ρ)).toArray i (ov ρ v) = some (L'.map (osl ρ)).toArray ∧ L'.length = L.length := by
  rw [oSt_eq]
  unfold oSt at h
  obtain ⟨x, h1, h⟩ := Option.bind_eq_some_iff.mp h
  rw [oget h1]
  cases x with
  | unset => exact oSelf_ok h
  | second =>
    obtain ⟨L1, h2, h⟩ := Option.bind_eq_some_iff.mp h
    have q1 := oAt_ok (ρ := ρ) h2
    have q1' : setAt (L.map (osl ρ)).toArray (i - 1) .unset = some (L1.map (osl ρ)).toArray := q1.1
    show (setAt _ _ _).bind _ = _ ∧ _
    rw [q1']
    have q := oSelf_ok (ρ := ρ) h
    exact ⟨q.1, q.2.trans q1.2⟩
  | val old =>
    show (if (ov ρ old).category = 2 then _ else _) = _ ∧ _
    rw [ov_cat]
    dsimp only at h
    split at h
    · rename_i hc
      rw [if_pos hc]
      obtain ⟨L1, h2, h⟩ := Option.bind_eq_some_iff.mp h
      have q1 := oAt_ok (ρ := ρ) h2
      have q1' : setAt (L.map (osl ρ)).toArray (i + 1) .unset = some (L1.map (osl ρ)).toArray := q1.1
      rw [q1']
      have q := oSelf_ok (ρ := ρ) h
      exact ⟨q.1, q.2.trans q1.2⟩
    · rename_i hc
      rw [if_neg hc]
      exact oSelf_ok h
/-- a slot of any kind of one word is written over -/
theorem oSt_one {L : List Slot} {i : Nat} {v : Value} {o : Slot} (h : L[i]? = some o) (ho : One o) (hv : v.category = 1) : oSt L i v = some (L.set i (.val v)) := by
  have hi := (List.getElem?_eq_some_iff.mp h).1
  have e : oSelf L i v = some (L.set i (.val v)) := by
    unfold oSelf oAt
    rw [if_pos hi]
    show (if v.category = 2 then _ else _) = _
    rw [if_neg (by omega)]
  unfold oSt
  rw [h]
  rcases ho with rfl | ⟨w, rfl, hw⟩
  · exact e
  · show (if w.category = 2 then _ else _) = _
    rw [if_neg (by omega)]; exact e
/-! the judgements -/
abbrev oF (ρ : oM) (m : MethodId) (a : oS) : JFrame := mkF m a.1 (a.2.1.map (osl ρ)).toArray (a.2.2.1.map (ov ρ))
/-- from the abstract state a the walk comes to b -/
def Sim (l : Launch) (Z : State) (K : oK) (ρ : oM) (own mn : String) (bytes : ByteArray) (ml : Nat) (R : Room) (a b : oS) : Prop :=
  ∀ (p : Program) (e : Env) (s : State) (m : MethodId) (args : Array Value) (below : List Frame) (meth : Method) (c : Code) (T : State) (locs : List Loc),
    Stand p l e R s m args below meth c T locs a.2.2.2.2.1 a.2.2.2.2.2 → p.tables.exec = Jvm.exec → Z.Warmed39 s.vm → c.code = bytes → c.maxLocals = ml → s.vm.findClass own = some m.cls → meth.name = mn → oRep Z K ρ T.heap a.2.2.2.1 → Fr (ρ.1 0) locs → a.2.1.length = ml →
    ∃ (T' : State) (locs' : List Loc), Stand p l e R s m args below meth c T' locs' b.2.2.2.2.1 b.2.2.2.2.2 ∧ oRep Z K ρ T'.heap b.2.2.2.1 ∧ Fr (ρ.1 0) locs' ∧ b.2.1.length = ml ∧
      ∀ target, Steps p.tables e below (T'.setTop (oF ρ m b)) target → Steps p.tables e below (T.setTop (oF ρ m a)) target
/-- from the abstract state a the method returns v, and its own heap is then A' -/
def Ends (l : Launch) (Z : State) (K : oK) (ρ : oM) (own mn : String) (bytes : ByteArray) (ml : Nat) (R : Room) (ret : Option FieldType) (a : oS) (v : Option Value) (A' : oH) : Prop :=
  ∀ (p : Program) (e : Env) (s : State) (m : MethodId) (args : Array Value) (below : List Frame) (meth : Method) (c : Code) (T : State) (locs : List Loc),
    Stand p l e R s m args below meth c T locs a.2.2.2.2.1 a.2.2.2.2.2 → p.tables.exec = Jvm.exec → Z.Warmed39 s.vm → c.code = bytes → c.maxLocals = ml → s.vm.findClass own = some m.cls → meth.name = mn → oRep Z K ρ T.heap a.2.2.2.1 → Fr (ρ.1 0) locs → a.2.1.length = ml →
    meth.sig.returnType = ret → meth.locks = false →
    ∃ (s₂ : State) (locs' : List Loc), Steps p.tables e below (T.setTop (oF ρ m a)) s₂ ∧ s₂.status = .running ∧ Ended s₂ below (.returned (v.map (ov ρ))) ∧ Fr (ρ.1 0) locs' ∧ oRep Z K ρ s₂.heap A' ∧ s.WarmedH s₂.vm ∧ s.sameButNew ({ s₂ with vm := s.vm } : State) locs' R.cells R.slots
/-- the contract of a method at given arguments and own heap -/
def Met (l : Launch) (Z : State) (K : oK) (ρ : oM) (y : MethodName) (bytes : ByteArray) (ml : Nat) (ret : Option FieldType) (rm : Room) (ws : List Jvm.Cond) (as : List Value) (A : oH) (v : Option Value) (A' : oH) : Prop :=
  ∀ h0, oRep Z K ρ h0 A → MetFree l y (head1 (Jvm.Cond.code y bytes ml ret :: ws) rm) (fun a U => a = (as.map (ov ρ)).toArray ∧ Z.Warmed39 U.vm ∧ U.heap = h0) (fun _ _ _ _ _ => True)
    (fun _ U o U' => ∃ v' L, o = .returned v' ∧ (v' = v.map (ov ρ) ∧ Fr (ρ.1 0) L ∧ oRep Z K ρ U'.heap A') ∧ FrameEnd U o U' L rm.cells rm.slots)
section Layer
variable {l : Launch} {Z : State} {K : oK} {ρ : oM} {own mn : String} {bytes : ByteArray} {ml : Nat} {R : Room} {ret : Option FieldType} {a0 : Array Value}
variable {pc pc' : Nat} {L L' : List Slot} {S S' : List Value} {A A' : oH} {c n : Nat} {v : Option Value}
theorem Sim.rf (a : oS) : Sim l Z K ρ own mn bytes ml R a a := fun p e s m args below meth c T locs X _ _ _ _ _ _ hR hF hL => ⟨T, locs, X, hR, hF, hL, fun _ k => k⟩
theorem Sim.tr {a b d : oS} (h1 : Sim l Z K ρ own mn bytes ml R a b) (h2 : Sim l Z K ρ own mn bytes ml R b d) : Sim l Z K ρ own mn bytes ml R a d := fun p e s m args below meth c T locs X hx hZ hby hml hown hnm hR hF hL => by
  obtain ⟨T1, l1, X1, R1, F1, L1, k1⟩ := h1 p e s m args below meth c T locs X hx hZ hby hml hown hnm hR hF hL
  obtain ⟨T2, l2, X2, R2, F2, L2, k2⟩ := h2 p e s m args below meth c T1 l1 X1 hx hZ hby hml hown hnm R1 F1 L1
  exact ⟨T2, l2, X2, R2, F2, L2, fun t k => k1 t (k2 t k)⟩
theorem Ends.st {a b : oS} (h1 : Sim l Z K ρ own mn bytes ml R a b) (h2 : Ends l Z K ρ own mn bytes ml R ret b v A') : Ends l Z K ρ own mn bytes ml R ret a v A' := fun p e s m args below meth c T locs X hx hZ hby hml hown hnm hR hF hL hrt hlk => by
  obtain ⟨T1, l1, X1, R1, F1, L1, k1⟩ := h1 p e s m args below meth c T locs X hx hZ hby hml hown hnm hR hF hL
  obtain ⟨s2, l2, g1, g2⟩ := h2 p e s m args below meth c T1 l1 X1 hx hZ hby hml hown hnm R1 F1 L1 hrt hlk
  exact ⟨s2, l2, k1 s2 g1, g2⟩
/-- the same, whatever its own heap is then -/
def EndsE (l : Launch) (Z : State) (K : oK) (ρ : oM) (own mn : String) (bytes : ByteArray) (ml : Nat) (R : Room) (ret : Option FieldType) (a : oS) (v : Option Value) : Prop := ∃ A', Ends l Z K ρ own mn bytes ml R ret a v A'
theorem EndsE.st {a b : oS} (h1 : Sim l Z K ρ own mn bytes ml R a b) (h2 : EndsE l Z K ρ own mn bytes ml R ret b v) : EndsE l Z K ρ own mn bytes ml R ret a v := h2.imp fun _ h => Ends.st h1 h
theorem Sim.pure (hl : L'.length = L.length)
    (h : ∀ (p : Program) (e : Env) (s : State) (m : MethodId) (args : Array Value) (below : List Frame) (meth : Method) (cd : Code) (T : State) (locs : List Loc), Stand p l e R s m args below meth cd T locs c n → p.tables.exec = Jvm.exec → Z.Warmed39 s.vm → cd.code = bytes → s.vm.findClass own = some m.cls →
      ∀ target, Steps p.tables e below (T.setTop (oF ρ m (pc', L', S', A, c, n))) target → Steps p.tables e below (T.setTop (oF ρ m (pc, L, S, A, c, n))) target) :
    Sim l Z K ρ own mn bytes ml R (pc, L, S, A, c, n) (pc', L', S', A, c, n) :=
  fun p e s m args below meth cd T locs X hx hZ hby hml hown hnm hR hF hL => ⟨T, locs, X, hR, hF, hl.trans hL, h p e s m args below meth cd T locs X hx hZ hby hown⟩

theorem s_iload {j : Nat} {z : Int32} (hd : decode bytes pc = .ok (.iload j, 2)) (hl : L[j]? = some (.val (.int z))) : Sim l Z K ρ own mn bytes ml R (pc, L, S, A, c, n) (pc + 2, L, .int z :: S, A, c, n) :=
  Sim.pure rfl fun p e s m args below meth cd T locs X hx hZ hby hown target k => XS.iload X.here hx rfl (hb hby hd) (oget hl) k
theorem s_iloadN {j : Fin 4} {z : Int32} (hd : decode bytes pc = .ok (.iload_n j, 1)) (hl : L[j.val]? = some (.val (.int z))) : Sim l Z K ρ own mn bytes ml R (pc, L, S, A, c, n) (pc + 1, L, .int z :: S, A, c, n) :=
  Sim.pure rfl fun p e s m args below meth cd T locs X hx hZ hby hown target k => XS.iloadN X.here hx rfl (hb hby hd) (oget hl) k
theorem s_lload {j : Nat} {z : Int64} (hd : decode bytes pc = .ok (.lload j, 2)) (hl : L[j]? = some (.val (.long z))) : Sim l Z K ρ own mn bytes ml R (pc, L, S, A, c, n) (pc + 2, L, .long z :: S, A, c, n) :=
  Sim.pure rfl fun p e s m args below meth cd T locs X hx hZ hby hown target k => XS.lload X.here hx rfl (hb hby hd) (oget hl) k
theorem s_lloadN {j : Fin 4} {z : Int64} (hd : decode bytes pc = .ok (.lload_n j, 1)) (hl : L[j.val]? = some (.val (.long z))) : Sim l Z K ρ own mn bytes ml R (pc, L, S, A, c, n) (pc + 1, L, .long z :: S, A, c, n) :=
  Sim.pure rfl fun p e s m args below meth cd T locs X hx hZ hby hown target k => XS.lloadN X.here hx rfl (hb hby hd) (oget hl) k
theorem s_aload {j : Nat} {w : Value} (hd : decode bytes pc = .ok (.aload j, 2)) (hl : L[j]? = some (.val w)) (hv : (ov ρ w).isRef = true) : Sim l Z K ρ own mn bytes ml R (pc, L, S, A, c, n) (pc + 2, L, w :: S, A, c, n) :=
  Sim.pure rfl fun p e s m args below meth cd T locs X hx hZ hby hown target k => XS.aload X.here hx rfl (hb hby hd) (oget hl) hv k
theorem s_aloadN {j : Fin 4} {w : Value} (hd : decode bytes pc = .ok (.aload_n j, 1)) (hl : L[j.val]? = some (.val w)) (hv : (ov ρ w).isRef = true) : Sim l Z K ρ own mn bytes ml R (pc, L, S, A, c, n) (pc + 1, L, w :: S, A, c, n) :=
  Sim.pure rfl fun p e s m args below meth cd T locs X hx hZ hby hown target k => XS.aloadN X.here hx rfl (hb hby hd) (oget hl) hv k
theorem s_istore {j : Nat} {z : Int32} (hd : decode bytes pc = .ok (.istore j, 2)) (hl : oSt L j (.int z) = some L') : Sim l Z K ρ own mn bytes ml R (pc, L, .int z :: S, A, c, n) (pc + 2, L', S, A, c, n) :=
  Sim.pure (oSt_ok (ρ := ρ) hl).2 fun p e s m args below meth cd T locs X hx hZ hby hown target k => XS.istore X.here hx rfl (hb hby hd) rfl (oSt_ok (ρ := ρ) hl).1 k
theorem s_istoreN {j : Fin 4} {z : Int32} (hd : decode bytes pc = .ok (.istore_n j, 1)) (hl : oSt L j.val (.int z) = some L') : Sim l Z K ρ own mn bytes ml R (pc, L, .int z :: S, A, c, n) (pc + 1, L', S, A, c, n) :=
  Sim.pure (oSt_ok (ρ := ρ) hl).2 fun p e s m args below meth cd T locs X hx hZ hby hown target k => XS.istoreN X.here hx rfl (hb hby hd) rfl (oSt_ok (ρ := ρ) hl).1 k
theorem s_lstore {j : Nat} {z : Int64} (hd : decode bytes pc = .ok (.lstore j, 2)) (hl : oSt L j (.long z) = some L') : Sim l Z K ρ own mn bytes ml R (pc, L, .long z :: S, A, c, n) (pc + 2, L', S, A, c, n) :=
  Sim.pure (oSt_ok (ρ := ρ) hl).2 fun p e s m args below meth cd T locs X hx hZ hby hown target k => XS.lstore X.here hx rfl (hb hby hd) rfl (oSt_ok (ρ := ρ) hl).1 k
theorem s_lstoreN {j : Fin 4} {z : Int64} (hd : decode bytes pc = .ok (.lstore_n j, 1)) (hl : oSt L j.val (.long z) = some L') : Sim l Z K ρ own mn bytes ml R (pc, L, .long z :: S, A, c, n) (pc + 1, L', S, A, c, n) :=
  Sim.pure (oSt_ok (ρ := ρ) hl).2 fun p e s m args below meth cd T locs X hx hZ hby hown target k => XS.lstoreN X.here hx rfl (hb hby hd) rfl (oSt_ok (ρ := ρ) hl).1 k
theorem s_astore {j : Nat} {w : Value} (hd : decode bytes pc = .ok (.astore j, 2)) (hv : (ov ρ w).isRef = true) (hl : oSt L j w = some L') : Sim l Z K ρ own mn bytes ml R (pc, L, w :: S, A, c, n) (pc + 2, L', S, A, c, n) :=
  Sim.pure (oSt_ok (ρ := ρ) hl).2 fun p e s m args below meth cd T locs X hx hZ hby hown target k => XS.astore X.here hx rfl (hb hby hd) rfl hv (oSt_ok (ρ := ρ) hl).1 k
theorem s_astoreN {j : Fin 4} {w : Value} (hd : decode bytes pc = .ok (.astore_n j, 1)) (hv : (ov ρ w).isRef = true) (hl : oSt L j.val w = some L') : Sim l Z K ρ own mn bytes ml R (pc, L, w :: S, A, c, n) (pc + 1, L', S, A, c, n) :=
  Sim.pure (oSt_ok (ρ := ρ) hl).2 fun p e s m args below meth cd T locs X hx hZ hby hown target k => XS.astoreN X.here hx rfl (hb hby hd) rfl hv (oSt_ok (ρ := ρ) hl).1 k
theorem s_iinc {j : Nat} {i : Int} {z z' : Int32} (hd : decode bytes pc = .ok (.iinc j i, 3)) (h : L[j]? = some (.val (.int z))) (hz : z + Int32.ofInt i = z') (hl : oSt L j (.int z') = some L') : Sim l Z K ρ own mn bytes ml R (pc, L, S, A, c, n) (pc + 3, L', S, A, c, n) := by
  subst hz
  exact Sim.pure (oSt_ok (ρ := ρ) hl).2 fun p e s m args below meth cd T locs X hx hZ hby hown target k => XS.iinc X.here hx rfl (hb hby hd) (oget h) (oSt_ok (ρ := ρ) hl).1 k
theorem s_iconst {i : Int} {z : Int32} (hd : decode bytes pc = .ok (.iconst i, 1)) (hz : (Int32.ofInt i) = z) : Sim l Z K ρ own mn bytes ml R (pc, L, S, A, c, n) (pc + 1, L, .int z :: S, A, c, n) := by
  subst hz
  exact Sim.pure rfl fun p e s m args below meth cd T locs X hx hZ hby hown target k => XS.iconst X.here hx rfl (hb hby hd) k
theorem s_bipush {i : Int} {z : Int32} (hd : decode bytes pc = .ok (.bipush i, 2)) (hz : (Int8.ofInt i).toInt32 = z) : Sim l Z K ρ own mn bytes ml R (pc, L, S, A, c, n) (pc + 2, L, .int z :: S, A, c, n) := by
  subst hz
  exact Sim.pure rfl fun p e s m args below meth cd T locs X hx hZ hby hown target k => XS.bipush X.here hx rfl (hb hby hd) k
theorem s_sipush {i : Int} {z : Int32} (hd : decode bytes pc = .ok (.sipush i, 3)) (hz : (Int16.ofInt i).toInt32 = z) : Sim l Z K ρ own mn bytes ml R (pc, L, S, A, c, n) (pc + 3, L, .int z :: S, A, c, n) := by
  subst hz
  exact Sim.pure rfl fun p e s m args below meth cd T locs X hx hZ hby hown target k => XS.sipush X.here hx rfl (hb hby hd) k
theorem s_lconst {i : Fin 2} {z : Int64} (hd : decode bytes pc = .ok (.lconst i, 1)) (hz : Int64.ofNat i = z) : Sim l Z K ρ own mn bytes ml R (pc, L, S, A, c, n) (pc + 1, L, .long z :: S, A, c, n) := by
  subst hz
  exact Sim.pure rfl fun p e s m args below meth cd T locs X hx hZ hby hown target k => XS.lconst X.here hx rfl (hb hby hd) k
theorem s_aconstNull  (hd : decode bytes pc = .ok (.aconst_null, 1)) : Sim l Z K ρ own mn bytes ml R (pc, L, S, A, c, n) (pc + 1, L, .null :: S, A, c, n) :=
  Sim.pure rfl fun p e s m args below meth cd T locs X hx hZ hby hown target k => XS.aconstNull X.here hx rfl (hb hby hd) k
theorem s_ldc {i : Nat} {z : Int32} (w : (Jvm.Cond.constant own i z).before a0 Z = true) (hd : decode bytes pc = .ok (.ldc i, 2)) : Sim l Z K ρ own mn bytes ml R (pc, L, S, A, c, n) (pc + 2, L, .int z :: S, A, c, n) :=
  Sim.pure rfl fun p e s m args below meth cd T locs X hx hZ hby hown target k => X.ldcInt hx hown (mvT hZ w) (g := oF ρ m (pc, L, S, A, c, n)) rfl (hb hby hd) target k
theorem s_ldcw {i : Nat} {z : Int32} (w : (Jvm.Cond.constant own i z).before a0 Z = true) (hd : decode bytes pc = .ok (.ldc_w i, 3)) : Sim l Z K ρ own mn bytes ml R (pc, L, S, A, c, n) (pc + 3, L, .int z :: S, A, c, n) :=
  Sim.pure rfl fun p e s m args below meth cd T locs X hx hZ hby hown target k => X.ldcwInt hx hown (mvT hZ w) (g := oF ρ m (pc, L, S, A, c, n)) rfl (hb hby hd) target k
theorem s_ldc2 {i : Nat} {z : Int64} (w : (Jvm.Cond.constantLong own i z).before a0 Z = true) (hd : decode bytes pc = .ok (.ldc2_w i, 3)) : Sim l Z K ρ own mn bytes ml R (pc, L, S, A, c, n) (pc + 3, L, .long z :: S, A, c, n) :=
  Sim.pure rfl fun p e s m args below meth cd T locs X hx hZ hby hown target k => X.ldc2Long hx hown (mvT hZ w) (g := oF ρ m (pc, L, S, A, c, n)) rfl (hb hby hd) target k
def jushr (x y : Int32) : Int32 := (x.toUInt32 >>> (y &&& 31).toUInt32).toInt32
def jshl (x y : Int32) : Int32 := x <<< (y &&& 31)
def jshr (x y : Int32) : Int32 := x >>> (y &&& 31)
def jushrL (x : Int64) (y : Int32) : Int64 := (x.toUInt64 >>> (y &&& 0x3f).toInt64.toUInt64).toInt64
def jshlL (x : Int64) (y : Int32) : Int64 := x <<< (y &&& 0x3f).toInt64
def jshrL (x : Int64) (y : Int32) : Int64 := x >>> (y &&& 0x3f).toInt64
def jcmp (x y : Int64) : Int32 := if x > y then 1 else if x = y then 0 else -1
theorem s_iadd {x y : Int32} (hd : decode bytes pc = .ok (.iadd, 1)) : Sim l Z K ρ own mn bytes ml R (pc, L, .int y :: .int x :: S, A, c, n) (pc + 1, L, .int (x + y) :: S, A, c, n) :=
  Sim.pure rfl fun p e s m args below meth cd T locs X hx hZ hby hown target k => XS.iadd X.here hx rfl (hb hby hd) rfl k
theorem s_isub {x y : Int32} (hd : decode bytes pc = .ok (.isub, 1)) : Sim l Z K ρ own mn bytes ml R (pc, L, .int y :: .int x :: S, A, c, n) (pc + 1, L, .int (x - y) :: S, A, c, n) :=
  Sim.pure rfl fun p e s m args below meth cd T locs X hx hZ hby hown target k => XS.isub X.here hx rfl (hb hby hd) rfl k
theorem s_imul {x y : Int32} (hd : decode bytes pc = .ok (.imul, 1)) : Sim l Z K ρ own mn bytes ml R (pc, L, .int y :: .int x :: S, A, c, n) (pc + 1, L, .int (x * y) :: S, A, c, n) :=
  Sim.pure rfl fun p e s m args below meth cd T locs X hx hZ hby hown target k => XS.imul X.here hx rfl (hb hby hd) rfl k
theorem s_iand {x y : Int32} (hd : decode bytes pc = .ok (.iand, 1)) : Sim l Z K ρ own mn bytes ml R (pc, L, .int y :: .int x :: S, A, c, n) (pc + 1, L, .int (x &&& y) :: S, A, c, n) :=
  Sim.pure rfl fun p e s m args below meth cd T locs X hx hZ hby hown target k => XS.iand X.here hx rfl (hb hby hd) rfl k
theorem s_ior {x y : Int32} (hd : decode bytes pc = .ok (.ior, 1)) : Sim l Z K ρ own mn bytes ml R (pc, L, .int y :: .int x :: S, A, c, n) (pc + 1, L, .int (x ||| y) :: S, A, c, n) :=
  Sim.pure rfl fun p e s m args below meth cd T locs X hx hZ hby hown target k => XS.ior X.here hx rfl (hb hby hd) rfl k
theorem s_ixor {x y : Int32} (hd : decode bytes pc = .ok (.ixor, 1)) : Sim l Z K ρ own mn bytes ml R (pc, L, .int y :: .int x :: S, A, c, n) (pc + 1, L, .int (x ^^^ y) :: S, A, c, n) :=
  Sim.pure rfl fun p e s m args below meth cd T locs X hx hZ hby hown target k => XS.ixor X.here hx rfl (hb hby hd) rfl k
theorem s_ishl {x y : Int32} (hd : decode bytes pc = .ok (.ishl, 1)) : Sim l Z K ρ own mn bytes ml R (pc, L, .int y :: .int x :: S, A, c, n) (pc + 1, L, .int (jshl x y) :: S, A, c, n) :=
  Sim.pure rfl fun p e s m args below meth cd T locs X hx hZ hby hown target k => XS.ishl X.here hx rfl (hb hby hd) rfl k
theorem s_ishr {x y : Int32} (hd : decode bytes pc = .ok (.ishr, 1)) : Sim l Z K ρ own mn bytes ml R (pc, L, .int y :: .int x :: S, A, c, n) (pc + 1, L, .int (jshr x y) :: S, A, c, n) :=
  Sim.pure rfl fun p e s m args below meth cd T locs X hx hZ hby hown target k => XS.ishr X.here hx rfl (hb hby hd) rfl k
theorem s_iushr {x y : Int32} (hd : decode bytes pc = .ok (.iushr, 1)) : Sim l Z K ρ own mn bytes ml R (pc, L, .int y :: .int x :: S, A, c, n) (pc + 1, L, .int (jushr x y) :: S, A, c, n) :=
  Sim.pure rfl fun p e s m args below meth cd T locs X hx hZ hby hown target k => XS.iushr X.here hx rfl (hb hby hd) rfl k
theorem s_ladd {x y : Int64} (hd : decode bytes pc = .ok (.ladd, 1)) : Sim l Z K ρ own mn bytes ml R (pc, L, .long y :: .long x :: S, A, c, n) (pc + 1, L, .long (x + y) :: S, A, c, n) :=
  Sim.pure rfl fun p e s m args below meth cd T locs X hx hZ hby hown target k => XS.ladd X.here hx rfl (hb hby hd) rfl k
theorem s_lsub {x y : Int64} (hd : decode bytes pc = .ok (.lsub, 1)) : Sim l Z K ρ own mn bytes ml R (pc, L, .long y :: .long x :: S, A, c, n) (pc + 1, L, .long (x - y) :: S, A, c, n) :=
  Sim.pure rfl fun p e s m args below meth cd T locs X hx hZ hby hown target k => XS.lsub X.here hx rfl (hb hby hd) rfl k
theorem s_lmul {x y : Int64} (hd : decode bytes pc = .ok (.lmul, 1)) : Sim l Z K ρ own mn bytes ml R (pc, L, .long y :: .long x :: S, A, c, n) (pc + 1, L, .long (x * y) :: S, A, c, n) :=
  Sim.pure rfl fun p e s m args below meth cd T locs X hx hZ hby hown target k => XS.lmul X.here hx rfl (hb hby hd) rfl k
theorem s_land {x y : Int64} (hd : decode bytes pc = .ok (.land, 1)) : Sim l Z K ρ own mn bytes ml R (pc, L, .long y :: .long x :: S, A, c, n) (pc + 1, L, .long (x &&& y) :: S, A, c, n) :=
  Sim.pure rfl fun p e s m args below meth cd T locs X hx hZ hby hown target k => XS.land X.here hx rfl (hb hby hd) rfl k
theorem s_lor {x y : Int64} (hd : decode bytes pc = .ok (.lor, 1)) : Sim l Z K ρ own mn bytes ml R (pc, L, .long y :: .long x :: S, A, c, n) (pc + 1, L, .long (x ||| y) :: S, A, c, n) :=
  Sim.pure rfl fun p e s m args below meth cd T locs X hx hZ hby hown target k => XS.lor X.here hx rfl (hb hby hd) rfl k
theorem s_lxor {x y : Int64} (hd : decode bytes pc = .ok (.lxor, 1)) : Sim l Z K ρ own mn bytes ml R (pc, L, .long y :: .long x :: S, A, c, n) (pc + 1, L, .long (x ^^^ y) :: S, A, c, n) :=
  Sim.pure rfl fun p e s m args below meth cd T locs X hx hZ hby hown target k => XS.lxor X.here hx rfl (hb hby hd) rfl k
theorem s_lshl {x : Int64} {y : Int32} (hd : decode bytes pc = .ok (.lshl, 1)) : Sim l Z K ρ own mn bytes ml R (pc, L, .int y :: .long x :: S, A, c, n) (pc + 1, L, .long (jshlL x y) :: S, A, c, n) :=
  Sim.pure rfl fun p e s m args below meth cd T locs X hx hZ hby hown target k => XS.lshl X.here hx rfl (hb hby hd) rfl k
theorem s_lshr {x : Int64} {y : Int32} (hd : decode bytes pc = .ok (.lshr, 1)) : Sim l Z K ρ own mn bytes ml R (pc, L, .int y :: .long x :: S, A, c, n) (pc + 1, L, .long (jshrL x y) :: S, A, c, n) :=
  Sim.pure rfl fun p e s m args below meth cd T locs X hx hZ hby hown target k => XS.lshr X.here hx rfl (hb hby hd) rfl k
theorem s_lushr {x : Int64} {y : Int32} (hd : decode bytes pc = .ok (.lushr, 1)) : Sim l Z K ρ own mn bytes ml R (pc, L, .int y :: .long x :: S, A, c, n) (pc + 1, L, .long (jushrL x y) :: S, A, c, n) :=
  Sim.pure rfl fun p e s m args below meth cd T locs X hx hZ hby hown target k => XS.lushr X.here hx rfl (hb hby hd) rfl k
theorem s_lcmp {x y : Int64} (hd : decode bytes pc = .ok (.lcmp, 1)) : Sim l Z K ρ own mn bytes ml R (pc, L, .long y :: .long x :: S, A, c, n) (pc + 1, L, .int (jcmp x y) :: S, A, c, n) :=
  Sim.pure rfl fun p e s m args below meth cd T locs X hx hZ hby hown target k => XS.lcmp X.here hx rfl (hb hby hd) rfl k
theorem s_ineg {x : Int32} (hd : decode bytes pc = .ok (.ineg, 1)) : Sim l Z K ρ own mn bytes ml R (pc, L, .int x :: S, A, c, n) (pc + 1, L, .int (-x) :: S, A, c, n) :=
  Sim.pure rfl fun p e s m args below meth cd T locs X hx hZ hby hown target k => XS.ineg X.here hx rfl (hb hby hd) rfl k
theorem s_lneg {x : Int64} (hd : decode bytes pc = .ok (.lneg, 1)) : Sim l Z K ρ own mn bytes ml R (pc, L, .long x :: S, A, c, n) (pc + 1, L, .long (-x) :: S, A, c, n) :=
  Sim.pure rfl fun p e s m args below meth cd T locs X hx hZ hby hown target k => XS.lneg X.here hx rfl (hb hby hd) rfl k
theorem s_i2l {x : Int32} (hd : decode bytes pc = .ok (.i2l, 1)) : Sim l Z K ρ own mn bytes ml R (pc, L, .int x :: S, A, c, n) (pc + 1, L, .long (x.toInt64) :: S, A, c, n) :=
  Sim.pure rfl fun p e s m args below meth cd T locs X hx hZ hby hown target k => XS.i2l X.here hx rfl (hb hby hd) rfl k
theorem s_l2i {x : Int64} (hd : decode bytes pc = .ok (.l2i, 1)) : Sim l Z K ρ own mn bytes ml R (pc, L, .long x :: S, A, c, n) (pc + 1, L, .int (x.toInt32) :: S, A, c, n) :=
  Sim.pure rfl fun p e s m args below meth cd T locs X hx hZ hby hown target k => XS.l2i X.here hx rfl (hb hby hd) rfl k
theorem s_i2b {x : Int32} (hd : decode bytes pc = .ok (.i2b, 1)) : Sim l Z K ρ own mn bytes ml R (pc, L, .int x :: S, A, c, n) (pc + 1, L, .int (x.toInt8.toInt32) :: S, A, c, n) :=
  Sim.pure rfl fun p e s m args below meth cd T locs X hx hZ hby hown target k => XS.i2b X.here hx rfl (hb hby hd) rfl k
theorem s_i2s {x : Int32} (hd : decode bytes pc = .ok (.i2s, 1)) : Sim l Z K ρ own mn bytes ml R (pc, L, .int x :: S, A, c, n) (pc + 1, L, .int (x.toInt16.toInt32) :: S, A, c, n) :=
  Sim.pure rfl fun p e s m args below meth cd T locs X hx hZ hby hown target k => XS.i2s X.here hx rfl (hb hby hd) rfl k
theorem s_i2c {x : Int32} (hd : decode bytes pc = .ok (.i2c, 1)) : Sim l Z K ρ own mn bytes ml R (pc, L, .int x :: S, A, c, n) (pc + 1, L, .int (x.toUInt32.toUInt16.toUInt32.toInt32) :: S, A, c, n) :=
  Sim.pure rfl fun p e s m args below meth cd T locs X hx hZ hby hown target k => XS.i2c X.here hx rfl (hb hby hd) rfl k
theorem s_idiv {x y : Int32} (hd : decode bytes pc = .ok (.idiv, 1)) (hy : y ≠ 0) : Sim l Z K ρ own mn bytes ml R (pc, L, .int y :: .int x :: S, A, c, n) (pc + 1, L, .int (x / y) :: S, A, c, n) :=
  Sim.pure rfl fun p e s m args below meth cd T locs X hx hZ hby hown target k => XS.idiv X.here hx rfl (hb hby hd) rfl hy k
theorem s_irem {x y : Int32} (hd : decode bytes pc = .ok (.irem, 1)) (hy : y ≠ 0) : Sim l Z K ρ own mn bytes ml R (pc, L, .int y :: .int x :: S, A, c, n) (pc + 1, L, .int (x % y) :: S, A, c, n) :=
  Sim.pure rfl fun p e s m args below meth cd T locs X hx hZ hby hown target k => iremM X hx rfl (hb hby hd) rfl hy k
theorem s_ldiv {x y : Int64} (hd : decode bytes pc = .ok (.ldiv, 1)) (hy : y ≠ 0) : Sim l Z K ρ own mn bytes ml R (pc, L, .long y :: .long x :: S, A, c, n) (pc + 1, L, .long (x / y) :: S, A, c, n) :=
  Sim.pure rfl fun p e s m args below meth cd T locs X hx hZ hby hown target k => XS.ldiv X.here hx rfl (hb hby hd) rfl hy k
theorem s_lrem {x y : Int64} (hd : decode bytes pc = .ok (.lrem, 1)) (hy : y ≠ 0) : Sim l Z K ρ own mn bytes ml R (pc, L, .long y :: .long x :: S, A, c, n) (pc + 1, L, .long (x % y) :: S, A, c, n) :=
  Sim.pure rfl fun p e s m args below meth cd T locs X hx hZ hby hown target k => XS.lrem X.here hx rfl (hb hby hd) rfl hy (by rw [lrem_mod x y]; exact k)
theorem s_dup {w : Value} (hd : decode bytes pc = .ok (.dup, 1)) (hc : w.category = 1) : Sim l Z K ρ own mn bytes ml R (pc, L, w :: S, A, c, n) (pc + 1, L, w :: w :: S, A, c, n) :=
  Sim.pure rfl fun p e s m args below meth cd T locs X hx hZ hby hown target k => XS.dup X.here hx rfl (hb hby hd) rfl ((ov_cat ρ w).trans hc) k
theorem s_pop {w : Value} (hd : decode bytes pc = .ok (.pop, 1)) (hc : w.category = 1) : Sim l Z K ρ own mn bytes ml R (pc, L, w :: S, A, c, n) (pc + 1, L, S, A, c, n) :=
  Sim.pure rfl fun p e s m args below meth cd T locs X hx hZ hby hown target k => XS.pop X.here hx rfl (hb hby hd) rfl ((ov_cat ρ w).trans hc) k
theorem s_dupX1 {w u : Value} (hd : decode bytes pc = .ok (.dup_x1, 1)) (hc : w.category = 1) (hc' : u.category = 1) : Sim l Z K ρ own mn bytes ml R (pc, L, w :: u :: S, A, c, n) (pc + 1, L, w :: u :: w :: S, A, c, n) :=
  Sim.pure rfl fun p e s m args below meth cd T locs X hx hZ hby hown target k => XS.dupX1 X.here hx rfl (hb hby hd) rfl ((ov_cat ρ w).trans hc) ((ov_cat ρ u).trans hc') k
theorem s_goto {o : Int} (hd : decode bytes pc = .ok (.goto o, 3)) (ho : 0 ≤ (pc : Int) + o) (hp : ((pc : Int) + o).toNat = pc') : Sim l Z K ρ own mn bytes ml R (pc, L, S, A, c, n) (pc', L, S, A, c, n) :=
  Sim.pure rfl fun p e s m args below meth cd T locs X hx hZ hby hown target k => XS.goto X.here hx rfl rfl (hb hby hd) ho hp k
theorem s_icmp_eq_t {o : Int} {x y : Int32} (hd : decode bytes pc = .ok (.if_icmp .eq o, 3)) (h : x = y) (ho : 0 ≤ (pc : Int) + o) (hp : ((pc : Int) + o).toNat = pc') : Sim l Z K ρ own mn bytes ml R (pc, L, .int y :: .int x :: S, A, c, n) (pc', L, S, A, c, n) :=
  Sim.pure rfl fun p e s m args below meth cd T locs X hx hZ hby hown target k => XS.icmpYes X.here hx rfl rfl (hb hby hd) rfl (teq h).1 ho hp k
theorem s_icmp_eq_f {o : Int} {x y : Int32} (hd : decode bytes pc = .ok (.if_icmp .eq o, 3)) (h : ¬ x = y) : Sim l Z K ρ own mn bytes ml R (pc, L, .int y :: .int x :: S, A, c, n) (pc + 3, L, S, A, c, n) :=
  Sim.pure rfl fun p e s m args below meth cd T locs X hx hZ hby hown target k => XS.icmpNo X.here hx rfl (hb hby hd) rfl (feq h).1 k
theorem s_if_eq_t {o : Int} {x : Int32} (hd : decode bytes pc = .ok (.ifCond .eq o, 3)) (h : x = 0) (ho : 0 ≤ (pc : Int) + o) (hp : ((pc : Int) + o).toNat = pc') : Sim l Z K ρ own mn bytes ml R (pc, L, .int x :: S, A, c, n) (pc', L, S, A, c, n) :=
  Sim.pure rfl fun p e s m args below meth cd T locs X hx hZ hby hown target k => XS.ifYes X.here hx rfl rfl (hb hby hd) rfl ((if0 _ _).trans (teq h).1) ho hp k
theorem s_if_eq_f {o : Int} {x : Int32} (hd : decode bytes pc = .ok (.ifCond .eq o, 3)) (h : ¬ x = 0) : Sim l Z K ρ own mn bytes ml R (pc, L, .int x :: S, A, c, n) (pc + 3, L, S, A, c, n) :=
  Sim.pure rfl fun p e s m args below meth cd T locs X hx hZ hby hown target k => XS.ifNo X.here hx rfl (hb hby hd) rfl ((if0 _ _).trans (feq h).1) k
theorem Ends.icmp_eq {o : Int} {x y : Int32} (hd : decode bytes pc = .ok (.if_icmp .eq o, 3)) (ho : 0 ≤ (pc : Int) + o) (hp : ((pc : Int) + o).toNat = pc') (ht : x = y → Ends l Z K ρ own mn bytes ml R ret (pc', L, S, A, c, n) v A') (hf : ¬ x = y → Ends l Z K ρ own mn bytes ml R ret (pc + 3, L, S, A, c, n) v A') : Ends l Z K ρ own mn bytes ml R ret (pc, L, .int y :: .int x :: S, A, c, n) v A' := by
  by_cases h : x = y
  · exact Ends.st (s_icmp_eq_t hd h ho hp) (ht h)
  · exact Ends.st (s_icmp_eq_f hd h) (hf h)
theorem Ends.if_eq {o : Int} {x : Int32} (hd : decode bytes pc = .ok (.ifCond .eq o, 3)) (ho : 0 ≤ (pc : Int) + o) (hp : ((pc : Int) + o).toNat = pc') (ht : x = 0 → Ends l Z K ρ own mn bytes ml R ret (pc', L, S, A, c, n) v A') (hf : ¬ x = 0 → Ends l Z K ρ own mn bytes ml R ret (pc + 3, L, S, A, c, n) v A') : Ends l Z K ρ own mn bytes ml R ret (pc, L, .int x :: S, A, c, n) v A' := by
  by_cases h : x = 0
  · exact Ends.st (s_if_eq_t hd h ho hp) (ht h)
  · exact Ends.st (s_if_eq_f hd h) (hf h)
theorem Sim.icmp_eq {q : oS} {o : Int} {x y : Int32} (hd : decode bytes pc = .ok (.if_icmp .eq o, 3)) (ho : 0 ≤ (pc : Int) + o) (hp : ((pc : Int) + o).toNat = pc') (ht : x = y → Sim l Z K ρ own mn bytes ml R (pc', L, S, A, c, n) q) (hf : ¬ x = y → Sim l Z K ρ own mn bytes ml R (pc + 3, L, S, A, c, n) q) : Sim l Z K ρ own mn bytes ml R (pc, L, .int y :: .int x :: S, A, c, n) q := by
  by_cases h : x = y
  · exact Sim.tr (s_icmp_eq_t hd h ho hp) (ht h)
  · exact Sim.tr (s_icmp_eq_f hd h) (hf h)
theorem Sim.if_eq {q : oS} {o : Int} {x : Int32} (hd : decode bytes pc = .ok (.ifCond .eq o, 3)) (ho : 0 ≤ (pc : Int) + o) (hp : ((pc : Int) + o).toNat = pc') (ht : x = 0 → Sim l Z K ρ own mn bytes ml R (pc', L, S, A, c, n) q) (hf : ¬ x = 0 → Sim l Z K ρ own mn bytes ml R (pc + 3, L, S, A, c, n) q) : Sim l Z K ρ own mn bytes ml R (pc, L, .int x :: S, A, c, n) q := by
  by_cases h : x = 0
  · exact Sim.tr (s_if_eq_t hd h ho hp) (ht h)
  · exact Sim.tr (s_if_eq_f hd h) (hf h)
theorem EndsE.icmp_eq {o : Int} {x y : Int32} (hd : decode bytes pc = .ok (.if_icmp .eq o, 3)) (ho : 0 ≤ (pc : Int) + o) (hp : ((pc : Int) + o).toNat = pc') (ht : x = y → EndsE l Z K ρ own mn bytes ml R ret (pc', L, S, A, c, n) v) (hf : ¬ x = y → EndsE l Z K ρ own mn bytes ml R ret (pc + 3, L, S, A, c, n) v) : EndsE l Z K ρ own mn bytes ml R ret (pc, L, .int y :: .int x :: S, A, c, n) v := by
  by_cases h : x = y
  · exact EndsE.st (s_icmp_eq_t hd h ho hp) (ht h)
  · exact EndsE.st (s_icmp_eq_f hd h) (hf h)
theorem EndsE.if_eq {o : Int} {x : Int32} (hd : decode bytes pc = .ok (.ifCond .eq o, 3)) (ho : 0 ≤ (pc : Int) + o) (hp : ((pc : Int) + o).toNat = pc') (ht : x = 0 → EndsE l Z K ρ own mn bytes ml R ret (pc', L, S, A, c, n) v) (hf : ¬ x = 0 → EndsE l Z K ρ own mn bytes ml R ret (pc + 3, L, S, A, c, n) v) : EndsE l Z K ρ own mn bytes ml R ret (pc, L, .int x :: S, A, c, n) v := by
  by_cases h : x = 0
  · exact EndsE.st (s_if_eq_t hd h ho hp) (ht h)
  · exact EndsE.st (s_if_eq_f hd h) (hf h)
theorem s_icmp_ne_t {o : Int} {x y : Int32} (hd : decode bytes pc = .ok (.if_icmp .ne o, 3)) (h : ¬ x = y) (ho : 0 ≤ (pc : Int) + o) (hp : ((pc : Int) + o).toNat = pc') : Sim l Z K ρ own mn bytes ml R (pc, L, .int y :: .int x :: S, A, c, n) (pc', L, S, A, c, n) :=
  Sim.pure rfl fun p e s m args below meth cd T locs X hx hZ hby hown target k => XS.icmpYes X.here hx rfl rfl (hb hby hd) rfl (feq h).2 ho hp k
theorem s_icmp_ne_f {o : Int} {x y : Int32} (hd : decode bytes pc = .ok (.if_icmp .ne o, 3)) (h : x = y) : Sim l Z K ρ own mn bytes ml R (pc, L, .int y :: .int x :: S, A, c, n) (pc + 3, L, S, A, c, n) :=
  Sim.pure rfl fun p e s m args below meth cd T locs X hx hZ hby hown target k => XS.icmpNo X.here hx rfl (hb hby hd) rfl (teq h).2 k
theorem s_if_ne_t {o : Int} {x : Int32} (hd : decode bytes pc = .ok (.ifCond .ne o, 3)) (h : ¬ x = 0) (ho : 0 ≤ (pc : Int) + o) (hp : ((pc : Int) + o).toNat = pc') : Sim l Z K ρ own mn bytes ml R (pc, L, .int x :: S, A, c, n) (pc', L, S, A, c, n) :=
  Sim.pure rfl fun p e s m args below meth cd T locs X hx hZ hby hown target k => XS.ifYes X.here hx rfl rfl (hb hby hd) rfl ((if0 _ _).trans (feq h).2) ho hp k
theorem s_if_ne_f {o : Int} {x : Int32} (hd : decode bytes pc = .ok (.ifCond .ne o, 3)) (h : x = 0) : Sim l Z K ρ own mn bytes ml R (pc, L, .int x :: S, A, c, n) (pc + 3, L, S, A, c, n) :=
  Sim.pure rfl fun p e s m args below meth cd T locs X hx hZ hby hown target k => XS.ifNo X.here hx rfl (hb hby hd) rfl ((if0 _ _).trans (teq h).2) k
theorem Ends.icmp_ne {o : Int} {x y : Int32} (hd : decode bytes pc = .ok (.if_icmp .ne o, 3)) (ho : 0 ≤ (pc : Int) + o) (hp : ((pc : Int) + o).toNat = pc') (ht : ¬ x = y → Ends l Z K ρ own mn bytes ml R ret (pc', L, S, A, c, n) v A') (hf : x = y → Ends l Z K ρ own mn bytes ml R ret (pc + 3, L, S, A, c, n) v A') : Ends l Z K ρ own mn bytes ml R ret (pc, L, .int y :: .int x :: S, A, c, n) v A' := by
  by_cases h : ¬ x = y
  · exact Ends.st (s_icmp_ne_t hd h ho hp) (ht h)
  · exact Ends.st (s_icmp_ne_f hd (Classical.not_not.mp h)) (hf (Classical.not_not.mp h))
theorem Ends.if_ne {o : Int} {x : Int32} (hd : decode bytes pc = .ok (.ifCond .ne o, 3)) (ho : 0 ≤ (pc : Int) + o) (hp : ((pc : Int) + o).toNat = pc') (ht : ¬ x = 0 → Ends l Z K ρ own mn bytes ml R ret (pc', L, S, A, c, n) v A') (hf : x = 0 → Ends l Z K ρ own mn bytes ml R ret (pc + 3, L, S, A, c, n) v A') : Ends l Z K ρ own mn bytes ml R ret (pc, L, .int x :: S, A, c, n) v A' := by
  by_cases h : ¬ x = 0
  · exact Ends.st (s_if_ne_t hd h ho hp) (ht h)
  · exact Ends.st (s_if_ne_f hd (Classical.not_not.mp h)) (hf (Classical.not_not.mp h))
theorem Sim.icmp_ne {q : oS} {o : Int} {x y : Int32} (hd : decode bytes pc = .ok (.if_icmp .ne o, 3)) (ho : 0 ≤ (pc : Int) + o) (hp : ((pc : Int) + o).toNat = pc') (ht : ¬ x = y → Sim l Z K ρ own mn bytes ml R (pc', L, S, A, c, n) q) (hf : x = y → Sim l Z K ρ own mn bytes ml R (pc + 3, L, S, A, c, n) q) : Sim l Z K ρ own mn bytes ml R (pc, L, .int y :: .int x :: S, A, c, n) q := by
  by_cases h : ¬ x = y
  · exact Sim.tr (s_icmp_ne_t hd h ho hp) (ht h)
  · exact Sim.tr (s_icmp_ne_f hd (Classical.not_not.mp h)) (hf (Classical.not_not.mp h))
theorem Sim.if_ne {q : oS} {o : Int} {x : Int32} (hd : decode bytes pc = .ok (.ifCond .ne o, 3)) (ho : 0 ≤ (pc : Int) + o) (hp : ((pc : Int) + o).toNat = pc') (ht : ¬ x = 0 → Sim l Z K ρ own mn bytes ml R (pc', L, S, A, c, n) q) (hf : x = 0 → Sim l Z K ρ own mn bytes ml R (pc + 3, L, S, A, c, n) q) : Sim l Z K ρ own mn bytes ml R (pc, L, .int x :: S, A, c, n) q := by
  by_cases h : ¬ x = 0
  · exact Sim.tr (s_if_ne_t hd h ho hp) (ht h)
  · exact Sim.tr (s_if_ne_f hd (Classical.not_not.mp h)) (hf (Classical.not_not.mp h))
theorem EndsE.icmp_ne {o : Int} {x y : Int32} (hd : decode bytes pc = .ok (.if_icmp .ne o, 3)) (ho : 0 ≤ (pc : Int) + o) (hp : ((pc : Int) + o).toNat = pc') (ht : ¬ x = y → EndsE l Z K ρ own mn bytes ml R ret (pc', L, S, A, c, n) v) (hf : x = y → EndsE l Z K ρ own mn bytes ml R ret (pc + 3, L, S, A, c, n) v) : EndsE l Z K ρ own mn bytes ml R ret (pc, L, .int y :: .int x :: S, A, c, n) v := by
  by_cases h : ¬ x = y
  · exact EndsE.st (s_icmp_ne_t hd h ho hp) (ht h)
  · exact EndsE.st (s_icmp_ne_f hd (Classical.not_not.mp h)) (hf (Classical.not_not.mp h))
theorem EndsE.if_ne {o : Int} {x : Int32} (hd : decode bytes pc = .ok (.ifCond .ne o, 3)) (ho : 0 ≤ (pc : Int) + o) (hp : ((pc : Int) + o).toNat = pc') (ht : ¬ x = 0 → EndsE l Z K ρ own mn bytes ml R ret (pc', L, S, A, c, n) v) (hf : x = 0 → EndsE l Z K ρ own mn bytes ml R ret (pc + 3, L, S, A, c, n) v) : EndsE l Z K ρ own mn bytes ml R ret (pc, L, .int x :: S, A, c, n) v := by
  by_cases h : ¬ x = 0
  · exact EndsE.st (s_if_ne_t hd h ho hp) (ht h)
  · exact EndsE.st (s_if_ne_f hd (Classical.not_not.mp h)) (hf (Classical.not_not.mp h))
theorem s_icmp_lt_t {o : Int} {x y : Int32} (hd : decode bytes pc = .ok (.if_icmp .lt o, 3)) (h : x < y) (ho : 0 ≤ (pc : Int) + o) (hp : ((pc : Int) + o).toNat = pc') : Sim l Z K ρ own mn bytes ml R (pc, L, .int y :: .int x :: S, A, c, n) (pc', L, S, A, c, n) :=
  Sim.pure rfl fun p e s m args below meth cd T locs X hx hZ hby hown target k => XS.icmpYes X.here hx rfl rfl (hb hby hd) rfl (tlt h).1 ho hp k
theorem s_icmp_lt_f {o : Int} {x y : Int32} (hd : decode bytes pc = .ok (.if_icmp .lt o, 3)) (h : ¬ x < y) : Sim l Z K ρ own mn bytes ml R (pc, L, .int y :: .int x :: S, A, c, n) (pc + 3, L, S, A, c, n) :=
  Sim.pure rfl fun p e s m args below meth cd T locs X hx hZ hby hown target k => XS.icmpNo X.here hx rfl (hb hby hd) rfl (flt h).1 k
theorem s_if_lt_t {o : Int} {x : Int32} (hd : decode bytes pc = .ok (.ifCond .lt o, 3)) (h : x < 0) (ho : 0 ≤ (pc : Int) + o) (hp : ((pc : Int) + o).toNat = pc') : Sim l Z K ρ own mn bytes ml R (pc, L, .int x :: S, A, c, n) (pc', L, S, A, c, n) :=
  Sim.pure rfl fun p e s m args below meth cd T locs X hx hZ hby hown target k => XS.ifYes X.here hx rfl rfl (hb hby hd) rfl ((if0 _ _).trans (tlt h).1) ho hp k
theorem s_if_lt_f {o : Int} {x : Int32} (hd : decode bytes pc = .ok (.ifCond .lt o, 3)) (h : ¬ x < 0) : Sim l Z K ρ own mn bytes ml R (pc, L, .int x :: S, A, c, n) (pc + 3, L, S, A, c, n) :=
  Sim.pure rfl fun p e s m args below meth cd T locs X hx hZ hby hown target k => XS.ifNo X.here hx rfl (hb hby hd) rfl ((if0 _ _).trans (flt h).1) k
theorem Ends.icmp_lt {o : Int} {x y : Int32} (hd : decode bytes pc = .ok (.if_icmp .lt o, 3)) (ho : 0 ≤ (pc : Int) + o) (hp : ((pc : Int) + o).toNat = pc') (ht : x < y → Ends l Z K ρ own mn bytes ml R ret (pc', L, S, A, c, n) v A') (hf : ¬ x < y → Ends l Z K ρ own mn bytes ml R ret (pc + 3, L, S, A, c, n) v A') : Ends l Z K ρ own mn bytes ml R ret (pc, L, .int y :: .int x :: S, A, c, n) v A' := by
  by_cases h : x < y
  · exact Ends.st (s_icmp_lt_t hd h ho hp) (ht h)
  · exact Ends.st (s_icmp_lt_f hd h) (hf h)
theorem Ends.if_lt {o : Int} {x : Int32} (hd : decode bytes pc = .ok (.ifCond .lt o, 3)) (ho : 0 ≤ (pc : Int) + o) (hp : ((pc : Int) + o).toNat = pc') (ht : x < 0 → Ends l Z K ρ own mn bytes ml R ret (pc', L, S, A, c, n) v A') (hf : ¬ x < 0 → Ends l Z K ρ own mn bytes ml R ret (pc + 3, L, S, A, c, n) v A') : Ends l Z K ρ own mn bytes ml R ret (pc, L, .int x :: S, A, c, n) v A' := by
  by_cases h : x < 0
  · exact Ends.st (s_if_lt_t hd h ho hp) (ht h)
  · exact Ends.st (s_if_lt_f hd h) (hf h)
theorem Sim.icmp_lt {q : oS} {o : Int} {x y : Int32} (hd : decode bytes pc = .ok (.if_icmp .lt o, 3)) (ho : 0 ≤ (pc : Int) + o) (hp : ((pc : Int) + o).toNat = pc') (ht : x < y → Sim l Z K ρ own mn bytes ml R (pc', L, S, A, c, n) q) (hf : ¬ x < y → Sim l Z K ρ own mn bytes ml R (pc + 3, L, S, A, c, n) q) : Sim l Z K ρ own mn bytes ml R (pc, L, .int y :: .int x :: S, A, c, n) q := by
  by_cases h : x < y
  · exact Sim.tr (s_icmp_lt_t hd h ho hp) (ht h)
  · exact Sim.tr (s_icmp_lt_f hd h) (hf h)
theorem Sim.if_lt {q : oS} {o : Int} {x : Int32} (hd : decode bytes pc = .ok (.ifCond .lt o, 3)) (ho : 0 ≤ (pc : Int) + o) (hp : ((pc : Int) + o).toNat = pc') (ht : x < 0 → Sim l Z K ρ own mn bytes ml R (pc', L, S, A, c, n) q) (hf : ¬ x < 0 → Sim l Z K ρ own mn bytes ml R (pc + 3, L, S, A, c, n) q) : Sim l Z K ρ own mn bytes ml R (pc, L, .int x :: S, A, c, n) q := by
  by_cases h : x < 0
  · exact Sim.tr (s_if_lt_t hd h ho hp) (ht h)
  · exact Sim.tr (s_if_lt_f hd h) (hf h)
theorem EndsE.icmp_lt {o : Int} {x y : Int32} (hd : decode bytes pc = .ok (.if_icmp .lt o, 3)) (ho : 0 ≤ (pc : Int) + o) (hp : ((pc : Int) + o).toNat = pc') (ht : x < y → EndsE l Z K ρ own mn bytes ml R ret (pc', L, S, A, c, n) v) (hf : ¬ x < y → EndsE l Z K ρ own mn bytes ml R ret (pc + 3, L, S, A, c, n) v) : EndsE l Z K ρ own mn bytes ml R ret (pc, L, .int y :: .int x :: S, A, c, n) v := by
  by_cases h : x < y
  · exact EndsE.st (s_icmp_lt_t hd h ho hp) (ht h)
  · exact EndsE.st (s_icmp_lt_f hd h) (hf h)
theorem EndsE.if_lt {o : Int} {x : Int32} (hd : decode bytes pc = .ok (.ifCond .lt o, 3)) (ho : 0 ≤ (pc : Int) + o) (hp : ((pc : Int) + o).toNat = pc') (ht : x < 0 → EndsE l Z K ρ own mn bytes ml R ret (pc', L, S, A, c, n) v) (hf : ¬ x < 0 → EndsE l Z K ρ own mn bytes ml R ret (pc + 3, L, S, A, c, n) v) : EndsE l Z K ρ own mn bytes ml R ret (pc, L, .int x :: S, A, c, n) v := by
  by_cases h : x < 0
  · exact EndsE.st (s_if_lt_t hd h ho hp) (ht h)
  · exact EndsE.st (s_if_lt_f hd h) (hf h)
theorem s_icmp_ge_t {o : Int} {x y : Int32} (hd : decode bytes pc = .ok (.if_icmp .ge o, 3)) (h : ¬ x < y) (ho : 0 ≤ (pc : Int) + o) (hp : ((pc : Int) + o).toNat = pc') : Sim l Z K ρ own mn bytes ml R (pc, L, .int y :: .int x :: S, A, c, n) (pc', L, S, A, c, n) :=
  Sim.pure rfl fun p e s m args below meth cd T locs X hx hZ hby hown target k => XS.icmpYes X.here hx rfl rfl (hb hby hd) rfl (flt h).2.1 ho hp k
theorem s_icmp_ge_f {o : Int} {x y : Int32} (hd : decode bytes pc = .ok (.if_icmp .ge o, 3)) (h : x < y) : Sim l Z K ρ own mn bytes ml R (pc, L, .int y :: .int x :: S, A, c, n) (pc + 3, L, S, A, c, n) :=
  Sim.pure rfl fun p e s m args below meth cd T locs X hx hZ hby hown target k => XS.icmpNo X.here hx rfl (hb hby hd) rfl (tlt h).2.1 k
theorem s_if_ge_t {o : Int} {x : Int32} (hd : decode bytes pc = .ok (.ifCond .ge o, 3)) (h : ¬ x < 0) (ho : 0 ≤ (pc : Int) + o) (hp : ((pc : Int) + o).toNat = pc') : Sim l Z K ρ own mn bytes ml R (pc, L, .int x :: S, A, c, n) (pc', L, S, A, c, n) :=
  Sim.pure rfl fun p e s m args below meth cd T locs X hx hZ hby hown target k => XS.ifYes X.here hx rfl rfl (hb hby hd) rfl ((if0 _ _).trans (flt h).2.1) ho hp k
theorem s_if_ge_f {o : Int} {x : Int32} (hd : decode bytes pc = .ok (.ifCond .ge o, 3)) (h : x < 0) : Sim l Z K ρ own mn bytes ml R (pc, L, .int x :: S, A, c, n) (pc + 3, L, S, A, c, n) :=
  Sim.pure rfl fun p e s m args below meth cd T locs X hx hZ hby hown target k => XS.ifNo X.here hx rfl (hb hby hd) rfl ((if0 _ _).trans (tlt h).2.1) k
theorem Ends.icmp_ge {o : Int} {x y : Int32} (hd : decode bytes pc = .ok (.if_icmp .ge o, 3)) (ho : 0 ≤ (pc : Int) + o) (hp : ((pc : Int) + o).toNat = pc') (ht : ¬ x < y → Ends l Z K ρ own mn bytes ml R ret (pc', L, S, A, c, n) v A') (hf : x < y → Ends l Z K ρ own mn bytes ml R ret (pc + 3, L, S, A, c, n) v A') : Ends l Z K ρ own mn bytes ml R ret (pc, L, .int y :: .int x :: S, A, c, n) v A' := by
  by_cases h : ¬ x < y
  · exact Ends.st (s_icmp_ge_t hd h ho hp) (ht h)
  · exact Ends.st (s_icmp_ge_f hd (Classical.not_not.mp h)) (hf (Classical.not_not.mp h))
theorem Ends.if_ge {o : Int} {x : Int32} (hd : decode bytes pc = .ok (.ifCond .ge o, 3)) (ho : 0 ≤ (pc : Int) + o) (hp : ((pc : Int) + o).toNat = pc') (ht : ¬ x < 0 → Ends l Z K ρ own mn bytes ml R ret (pc', L, S, A, c, n) v A') (hf : x < 0 → Ends l Z K ρ own mn bytes ml R ret (pc + 3, L, S, A, c, n) v A') : Ends l Z K ρ own mn bytes ml R ret (pc, L, .int x :: S, A, c, n) v A' := by
  by_cases h : ¬ x < 0
  · exact Ends.st (s_if_ge_t hd h ho hp) (ht h)
  · exact Ends.st (s_if_ge_f hd (Classical.not_not.mp h)) (hf (Classical.not_not.mp h))
theorem Sim.icmp_ge {q : oS} {o : Int} {x y : Int32} (hd : decode bytes pc = .ok (.if_icmp .ge o, 3)) (ho : 0 ≤ (pc : Int) + o) (hp : ((pc : Int) + o).toNat = pc') (ht : ¬ x < y → Sim l Z K ρ own mn bytes ml R (pc', L, S, A, c, n) q) (hf : x < y → Sim l Z K ρ own mn bytes ml R (pc + 3, L, S, A, c, n) q) : Sim l Z K ρ own mn bytes ml R (pc, L, .int y :: .int x :: S, A, c, n) q := by
  by_cases h : ¬ x < y
  · exact Sim.tr (s_icmp_ge_t hd h ho hp) (ht h)
  · exact Sim.tr (s_icmp_ge_f hd (Classical.not_not.mp h)) (hf (Classical.not_not.mp h))
theorem Sim.if_ge {q : oS} {o : Int} {x : Int32} (hd : decode bytes pc = .ok (.ifCond .ge o, 3)) (ho : 0 ≤ (pc : Int) + o) (hp : ((pc : Int) + o).toNat = pc') (ht : ¬ x < 0 → Sim l Z K ρ own mn bytes ml R (pc', L, S, A, c, n) q) (hf : x < 0 → Sim l Z K ρ own mn bytes ml R (pc + 3, L, S, A, c, n) q) : Sim l Z K ρ own mn bytes ml R (pc, L, .int x :: S, A, c, n) q := by
  by_cases h : ¬ x < 0
  · exact Sim.tr (s_if_ge_t hd h ho hp) (ht h)
  · exact Sim.tr (s_if_ge_f hd (Classical.not_not.mp h)) (hf (Classical.not_not.mp h))
theorem EndsE.icmp_ge {o : Int} {x y : Int32} (hd : decode bytes pc = .ok (.if_icmp .ge o, 3)) (ho : 0 ≤ (pc : Int) + o) (hp : ((pc : Int) + o).toNat = pc') (ht : ¬ x < y → EndsE l Z K ρ own mn bytes ml R ret (pc', L, S, A, c, n) v) (hf : x < y → EndsE l Z K ρ own mn bytes ml R ret (pc + 3, L, S, A, c, n) v) : EndsE l Z K ρ own mn bytes ml R ret (pc, L, .int y :: .int x :: S, A, c, n) v := by
  by_cases h : ¬ x < y
  · exact EndsE.st (s_icmp_ge_t hd h ho hp) (ht h)
  · exact EndsE.st (s_icmp_ge_f hd (Classical.not_not.mp h)) (hf (Classical.not_not.mp h))
theorem EndsE.if_ge {o : Int} {x : Int32} (hd : decode bytes pc = .ok (.ifCond .ge o, 3)) (ho : 0 ≤ (pc : Int) + o) (hp : ((pc : Int) + o).toNat = pc') (ht : ¬ x < 0 → EndsE l Z K ρ own mn bytes ml R ret (pc', L, S, A, c, n) v) (hf : x < 0 → EndsE l Z K ρ own mn bytes ml R ret (pc + 3, L, S, A, c, n) v) : EndsE l Z K ρ own mn bytes ml R ret (pc, L, .int x :: S, A, c, n) v := by
  by_cases h : ¬ x < 0
  · exact EndsE.st (s_if_ge_t hd h ho hp) (ht h)
  · exact EndsE.st (s_if_ge_f hd (Classical.not_not.mp h)) (hf (Classical.not_not.mp h))
theorem s_icmp_gt_t {o : Int} {x y : Int32} (hd : decode bytes pc = .ok (.if_icmp .gt o, 3)) (h : y < x) (ho : 0 ≤ (pc : Int) + o) (hp : ((pc : Int) + o).toNat = pc') : Sim l Z K ρ own mn bytes ml R (pc, L, .int y :: .int x :: S, A, c, n) (pc', L, S, A, c, n) :=
  Sim.pure rfl fun p e s m args below meth cd T locs X hx hZ hby hown target k => XS.icmpYes X.here hx rfl rfl (hb hby hd) rfl (tlt h).2.2.1 ho hp k
theorem s_icmp_gt_f {o : Int} {x y : Int32} (hd : decode bytes pc = .ok (.if_icmp .gt o, 3)) (h : ¬ y < x) : Sim l Z K ρ own mn bytes ml R (pc, L, .int y :: .int x :: S, A, c, n) (pc + 3, L, S, A, c, n) :=
  Sim.pure rfl fun p e s m args below meth cd T locs X hx hZ hby hown target k => XS.icmpNo X.here hx rfl (hb hby hd) rfl (flt h).2.2.1 k
theorem s_if_gt_t {o : Int} {x : Int32} (hd : decode bytes pc = .ok (.ifCond .gt o, 3)) (h : 0 < x) (ho : 0 ≤ (pc : Int) + o) (hp : ((pc : Int) + o).toNat = pc') : Sim l Z K ρ own mn bytes ml R (pc, L, .int x :: S, A, c, n) (pc', L, S, A, c, n) :=
  Sim.pure rfl fun p e s m args below meth cd T locs X hx hZ hby hown target k => XS.ifYes X.here hx rfl rfl (hb hby hd) rfl ((if0 _ _).trans (tlt h).2.2.1) ho hp k
theorem s_if_gt_f {o : Int} {x : Int32} (hd : decode bytes pc = .ok (.ifCond .gt o, 3)) (h : ¬ 0 < x) : Sim l Z K ρ own mn bytes ml R (pc, L, .int x :: S, A, c, n) (pc + 3, L, S, A, c, n) :=
  Sim.pure rfl fun p e s m args below meth cd T locs X hx hZ hby hown target k => XS.ifNo X.here hx rfl (hb hby hd) rfl ((if0 _ _).trans (flt h).2.2.1) k
theorem Ends.icmp_gt {o : Int} {x y : Int32} (hd : decode bytes pc = .ok (.if_icmp .gt o, 3)) (ho : 0 ≤ (pc : Int) + o) (hp : ((pc : Int) + o).toNat = pc') (ht : y < x → Ends l Z K ρ own mn bytes ml R ret (pc', L, S, A, c, n) v A') (hf : ¬ y < x → Ends l Z K ρ own mn bytes ml R ret (pc + 3, L, S, A, c, n) v A') : Ends l Z K ρ own mn bytes ml R ret (pc, L, .int y :: .int x :: S, A, c, n) v A' := by
  by_cases h : y < x
  · exact Ends.st (s_icmp_gt_t hd h ho hp) (ht h)
  · exact Ends.st (s_icmp_gt_f hd h) (hf h)
theorem Ends.if_gt {o : Int} {x : Int32} (hd : decode bytes pc = .ok (.ifCond .gt o, 3)) (ho : 0 ≤ (pc : Int) + o) (hp : ((pc : Int) + o).toNat = pc') (ht : 0 < x → Ends l Z K ρ own mn bytes ml R ret (pc', L, S, A, c, n) v A') (hf : ¬ 0 < x → Ends l Z K ρ own mn bytes ml R ret (pc + 3, L, S, A, c, n) v A') : Ends l Z K ρ own mn bytes ml R ret (pc, L, .int x :: S, A, c, n) v A' := by
  by_cases h : 0 < x
  · exact Ends.st (s_if_gt_t hd h ho hp) (ht h)
  · exact Ends.st (s_if_gt_f hd h) (hf h)
theorem Sim.icmp_gt {q : oS} {o : Int} {x y : Int32} (hd : decode bytes pc = .ok (.if_icmp .gt o, 3)) (ho : 0 ≤ (pc : Int) + o) (hp : ((pc : Int) + o).toNat = pc') (ht : y < x → Sim l Z K ρ own mn bytes ml R (pc', L, S, A, c, n) q) (hf : ¬ y < x → Sim l Z K ρ own mn bytes ml R (pc + 3, L, S, A, c, n) q) : Sim l Z K ρ own mn bytes ml R (pc, L, .int y :: .int x :: S, A, c, n) q := by
  by_cases h : y < x
  · exact Sim.tr (s_icmp_gt_t hd h ho hp) (ht h)
  · exact Sim.tr (s_icmp_gt_f hd h) (hf h)
theorem Sim.if_gt {q : oS} {o : Int} {x : Int32} (hd : decode bytes pc = .ok (.ifCond .gt o, 3)) (ho : 0 ≤ (pc : Int) + o) (hp : ((pc : Int) + o).toNat = pc') (ht : 0 < x → Sim l Z K ρ own mn bytes ml R (pc', L, S, A, c, n) q) (hf : ¬ 0 < x → Sim l Z K ρ own mn bytes ml R (pc + 3, L, S, A, c, n) q) : Sim l Z K ρ own mn bytes ml R (pc, L, .int x :: S, A, c, n) q := by
  by_cases h : 0 < x
  · exact Sim.tr (s_if_gt_t hd h ho hp) (ht h)
  · exact Sim.tr (s_if_gt_f hd h) (hf h)
theorem EndsE.icmp_gt {o : Int} {x y : Int32} (hd : decode bytes pc = .ok (.if_icmp .gt o, 3)) (ho : 0 ≤ (pc : Int) + o) (hp : ((pc : Int) + o).toNat = pc') (ht : y < x → EndsE l Z K ρ own mn bytes ml R ret (pc', L, S, A, c, n) v) (hf : ¬ y < x → EndsE l Z K ρ own mn bytes ml R ret (pc + 3, L, S, A, c, n) v) : EndsE l Z K ρ own mn bytes ml R ret (pc, L, .int y :: .int x :: S, A, c, n) v := by
  by_cases h : y < x
  · exact EndsE.st (s_icmp_gt_t hd h ho hp) (ht h)
  · exact EndsE.st (s_icmp_gt_f hd h) (hf h)
theorem EndsE.if_gt {o : Int} {x : Int32} (hd : decode bytes pc = .ok (.ifCond .gt o, 3)) (ho : 0 ≤ (pc : Int) + o) (hp : ((pc : Int) + o).toNat = pc') (ht : 0 < x → EndsE l Z K ρ own mn bytes ml R ret (pc', L, S, A, c, n) v) (hf : ¬ 0 < x → EndsE l Z K ρ own mn bytes ml R ret (pc + 3, L, S, A, c, n) v) : EndsE l Z K ρ own mn bytes ml R ret (pc, L, .int x :: S, A, c, n) v := by
  by_cases h : 0 < x
  · exact EndsE.st (s_if_gt_t hd h ho hp) (ht h)
  · exact EndsE.st (s_if_gt_f hd h) (hf h)
theorem s_icmp_le_t {o : Int} {x y : Int32} (hd : decode bytes pc = .ok (.if_icmp .le o, 3)) (h : ¬ y < x) (ho : 0 ≤ (pc : Int) + o) (hp : ((pc : Int) + o).toNat = pc') : Sim l Z K ρ own mn bytes ml R (pc, L, .int y :: .int x :: S, A, c, n) (pc', L, S, A, c, n) :=
  Sim.pure rfl fun p e s m args below meth cd T locs X hx hZ hby hown target k => XS.icmpYes X.here hx rfl rfl (hb hby hd) rfl (flt h).2.2.2 ho hp k
theorem s_icmp_le_f {o : Int} {x y : Int32} (hd : decode bytes pc = .ok (.if_icmp .le o, 3)) (h : y < x) : Sim l Z K ρ own mn bytes ml R (pc, L, .int y :: .int x :: S, A, c, n) (pc + 3, L, S, A, c, n) :=
  Sim.pure rfl fun p e s m args below meth cd T locs X hx hZ hby hown target k => XS.icmpNo X.here hx rfl (hb hby hd) rfl (tlt h).2.2.2 k
theorem s_if_le_t {o : Int} {x : Int32} (hd : decode bytes pc = .ok (.ifCond .le o, 3)) (h : ¬ 0 < x) (ho : 0 ≤ (pc : Int) + o) (hp : ((pc : Int) + o).toNat = pc') : Sim l Z K ρ own mn bytes ml R (pc, L, .int x :: S, A, c, n) (pc', L, S, A, c, n) :=
  Sim.pure rfl fun p e s m args below meth cd T locs X hx hZ hby hown target k => XS.ifYes X.here hx rfl rfl (hb hby hd) rfl ((if0 _ _).trans (flt h).2.2.2) ho hp k
theorem s_if_le_f {o : Int} {x : Int32} (hd : decode bytes pc = .ok (.ifCond .le o, 3)) (h : 0 < x) : Sim l Z K ρ own mn bytes ml R (pc, L, .int x :: S, A, c, n) (pc + 3, L, S, A, c, n) :=
  Sim.pure rfl fun p e s m args below meth cd T locs X hx hZ hby hown target k => XS.ifNo X.here hx rfl (hb hby hd) rfl ((if0 _ _).trans (tlt h).2.2.2) k
theorem Ends.icmp_le {o : Int} {x y : Int32} (hd : decode bytes pc = .ok (.if_icmp .le o, 3)) (ho : 0 ≤ (pc : Int) + o) (hp : ((pc : Int) + o).toNat = pc') (ht : ¬ y < x → Ends l Z K ρ own mn bytes ml R ret (pc', L, S, A, c, n) v A') (hf : y < x → Ends l Z K ρ own mn bytes ml R ret (pc + 3, L, S, A, c, n) v A') : Ends l Z K ρ own mn bytes ml R ret (pc, L, .int y :: .int x :: S, A, c, n) v A' := by
  by_cases h : ¬ y < x
  · exact Ends.st (s_icmp_le_t hd h ho hp) (ht h)
  · exact Ends.st (s_icmp_le_f hd (Classical.not_not.mp h)) (hf (Classical.not_not.mp h))
theorem Ends.if_le {o : Int} {x : Int32} (hd : decode bytes pc = .ok (.ifCond .le o, 3)) (ho : 0 ≤ (pc : Int) + o) (hp : ((pc : Int) + o).toNat = pc') (ht : ¬ 0 < x → Ends l Z K ρ own mn bytes ml R ret (pc', L, S, A, c, n) v A') (hf : 0 < x → Ends l Z K ρ own mn bytes ml R ret (pc + 3, L, S, A, c, n) v A') : Ends l Z K ρ own mn bytes ml R ret (pc, L, .int x :: S, A, c, n) v A' := by
  by_cases h : ¬ 0 < x
  · exact Ends.st (s_if_le_t hd h ho hp) (ht h)
  · exact Ends.st (s_if_le_f hd (Classical.not_not.mp h)) (hf (Classical.not_not.mp h))
theorem Sim.icmp_le {q : oS} {o : Int} {x y : Int32} (hd : decode bytes pc = .ok (.if_icmp .le o, 3)) (ho : 0 ≤ (pc : Int) + o) (hp : ((pc : Int) + o).toNat = pc') (ht : ¬ y < x → Sim l Z K ρ own mn bytes ml R (pc', L, S, A, c, n) q) (hf : y < x → Sim l Z K ρ own mn bytes ml R (pc + 3, L, S, A, c, n) q) : Sim l Z K ρ own mn bytes ml R (pc, L, .int y :: .int x :: S, A, c, n) q := by
  by_cases h : ¬ y < x
  · exact Sim.tr (s_icmp_le_t hd h ho hp) (ht h)
  · exact Sim.tr (s_icmp_le_f hd (Classical.not_not.mp h)) (hf (Classical.not_not.mp h))
theorem Sim.if_le {q : oS} {o : Int} {x : Int32} (hd : decode bytes pc = .ok (.ifCond .le o, 3)) (ho : 0 ≤ (pc : Int) + o) (hp : ((pc : Int) + o).toNat = pc') (ht : ¬ 0 < x → Sim l Z K ρ own mn bytes ml R (pc', L, S, A, c, n) q) (hf : 0 < x → Sim l Z K ρ own mn bytes ml R (pc + 3, L, S, A, c, n) q) : Sim l Z K ρ own mn bytes ml R (pc, L, .int x :: S, A, c, n) q := by
  by_cases h : ¬ 0 < x
  · exact Sim.tr (s_if_le_t hd h ho hp) (ht h)
  · exact Sim.tr (s_if_le_f hd (Classical.not_not.mp h)) (hf (Classical.not_not.mp h))
theorem EndsE.icmp_le {o : Int} {x y : Int32} (hd : decode bytes pc = .ok (.if_icmp .le o, 3)) (ho : 0 ≤ (pc : Int) + o) (hp : ((pc : Int) + o).toNat = pc') (ht : ¬ y < x → EndsE l Z K ρ own mn bytes ml R ret (pc', L, S, A, c, n) v) (hf : y < x → EndsE l Z K ρ own mn bytes ml R ret (pc + 3, L, S, A, c, n) v) : EndsE l Z K ρ own mn bytes ml R ret (pc, L, .int y :: .int x :: S, A, c, n) v := by
  by_cases h : ¬ y < x
  · exact EndsE.st (s_icmp_le_t hd h ho hp) (ht h)
  · exact EndsE.st (s_icmp_le_f hd (Classical.not_not.mp h)) (hf (Classical.not_not.mp h))
theorem EndsE.if_le {o : Int} {x : Int32} (hd : decode bytes pc = .ok (.ifCond .le o, 3)) (ho : 0 ≤ (pc : Int) + o) (hp : ((pc : Int) + o).toNat = pc') (ht : ¬ 0 < x → EndsE l Z K ρ own mn bytes ml R ret (pc', L, S, A, c, n) v) (hf : 0 < x → EndsE l Z K ρ own mn bytes ml R ret (pc + 3, L, S, A, c, n) v) : EndsE l Z K ρ own mn bytes ml R ret (pc, L, .int x :: S, A, c, n) v := by
  by_cases h : ¬ 0 < x
  · exact EndsE.st (s_if_le_t hd h ho hp) (ht h)
  · exact EndsE.st (s_if_le_f hd (Classical.not_not.mp h)) (hf (Classical.not_not.mp h))
theorem s_ifnull_t {o : Int} (hd : decode bytes pc = .ok (.ifnull o, 3)) (ho : 0 ≤ (pc : Int) + o) (hp : ((pc : Int) + o).toNat = pc') : Sim l Z K ρ own mn bytes ml R (pc, L, .null :: S, A, c, n) (pc', L, S, A, c, n) :=
  Sim.pure rfl fun p e s m args below meth cd T locs X hx hZ hby hown target k => XS.ifnullYes X.here hx rfl rfl (hb hby hd) rfl ho hp k
theorem s_ifnull_f {o : Int} {j : Addr} (hd : decode bytes pc = .ok (.ifnull o, 3)) : Sim l Z K ρ own mn bytes ml R (pc, L, .ref j :: S, A, c, n) (pc + 3, L, S, A, c, n) :=
  Sim.pure rfl fun p e s m args below meth cd T locs X hx hZ hby hown target k => XS.ifnullNo X.here hx rfl (hb hby hd) rfl k
theorem oRep.arr {h : Heap} {j : Nat} {ty : FieldType} {vs : List Value} (H : oRep Z K ρ h A) (hA : A[j]? = some (.inr (ty, vs))) : (vs.length < 2 ^ 31 ∧ ∀ w ∈ vs, fits ty (ov ρ w) = true) ∧ ∃ cl : Cell, Arr Z h (ρ.1 j) cl ty ∧ cl.slots = (vs.map (ov ρ)).toArray := H.2 j _ hA
theorem oin {cl : Cell} {vs : List Value} {i : Int32} {w : Value} (e : cl.slots = (vs.map (ov ρ)).toArray) (h0 : ¬ i < 0) (hv : vs[i.toNatClampNeg]? = some w) : ¬ (i < 0 ∨ cl.slots.size ≤ i.toNatClampNeg) ∧ cl.slots[i.toNatClampNeg]? = some (ov ρ w) := by
  have hi := (List.getElem?_eq_some_iff.mp hv).1
  refine ⟨fun q => q.elim h0 fun q => ?_, ?_⟩
  · rw [e] at q; simp at q; omega
  · rw [e]; simp [hv]
theorem olen {vs : List Value} (h : vs.length < 2 ^ 31) {cl : Cell} (e : cl.slots = (vs.map (ov ρ)).toArray) : cl.slots.size.toInt32 = Int32.ofNat vs.length := by
  rw [e]; simp [Nat.toInt32]
theorem s_arraylength {j : Addr} {ty : FieldType} {vs : List Value} (hd : decode bytes pc = .ok (.arraylength, 1)) (hA : A[j]? = some (.inr (ty, vs))) : Sim l Z K ρ own mn bytes ml R (pc, L, .ref j :: S, A, c, n) (pc + 1, L, .int (Int32.ofNat vs.length) :: S, A, c, n) :=
  fun p e s m args below meth cd T locs X hx hZ hby hml hown hnm hR hF hL => by
    obtain ⟨h1, cl, h2, h3⟩ := hR.arr hA
    exact ⟨T, locs, X, hR, hF, hL, fun target k => X.arraylength hx h2.1 (State.isArrayOf_alike hZ.alike h2.2.1) (g := oF ρ m (pc, L, .ref j :: S, A, c, n)) rfl rfl (hb hby hd) target (by rw [olen h1.1 h3]; exact k)⟩
theorem s_iaload {j : Addr} {vs : List Value} {i : Int32} {w : Value} (hd : decode bytes pc = .ok (.iaload, 1)) (hA : A[j]? = some (.inr (.int, vs))) (h0 : ¬ i < 0) (hv : vs[i.toNatClampNeg]? = some w) : Sim l Z K ρ own mn bytes ml R (pc, L, .int i :: .ref j :: S, A, c, n) (pc + 1, L, w :: S, A, c, n) :=
  fun p e s m args below meth cd T locs X hx hZ hby hml hown hnm hR hF hL => by
    obtain ⟨h1, cl, h2, h3⟩ := hR.arr hA
    obtain ⟨q1, q2⟩ := oin h3 h0 hv
    exact ⟨T, locs, X, hR, hF, hL, fun target k => X.iaload hx h2.1 (State.isArrayOf_alike hZ.alike h2.2.1) h2.2.2 q1 q2 (g := oF ρ m (pc, L, .int i :: .ref j :: S, A, c, n)) rfl rfl (hb hby hd) target k⟩
theorem s_laload {j : Addr} {vs : List Value} {i : Int32} {w : Value} (hd : decode bytes pc = .ok (.laload, 1)) (hA : A[j]? = some (.inr (.long, vs))) (h0 : ¬ i < 0) (hv : vs[i.toNatClampNeg]? = some w) : Sim l Z K ρ own mn bytes ml R (pc, L, .int i :: .ref j :: S, A, c, n) (pc + 1, L, w :: S, A, c, n) :=
  fun p e s m args below meth cd T locs X hx hZ hby hml hown hnm hR hF hL => by
    obtain ⟨h1, cl, h2, h3⟩ := hR.arr hA
    obtain ⟨q1, q2⟩ := oin h3 h0 hv
    exact ⟨T, locs, X, hR, hF, hL, fun target k => X.laload hx h2.1 (State.isArrayOf_alike hZ.alike h2.2.1) h2.2.2 q1 q2 (g := oF ρ m (pc, L, .int i :: .ref j :: S, A, c, n)) rfl rfl (hb hby hd) target k⟩
theorem s_baload {j : Addr} {vs : List Value} {i : Int32} {w : Value} (hd : decode bytes pc = .ok (.baload, 1)) (hA : A[j]? = some (.inr (.byte, vs))) (h0 : ¬ i < 0) (hv : vs[i.toNatClampNeg]? = some w) : Sim l Z K ρ own mn bytes ml R (pc, L, .int i :: .ref j :: S, A, c, n) (pc + 1, L, w :: S, A, c, n) :=
  fun p e s m args below meth cd T locs X hx hZ hby hml hown hnm hR hF hL => by
    obtain ⟨h1, cl, h2, h3⟩ := hR.arr hA
    obtain ⟨q1, q2⟩ := oin h3 h0 hv
    exact ⟨T, locs, X, hR, hF, hL, fun target k => X.baloadBytes hx h2.1 (State.isArrayOf_alike hZ.alike h2.2.1) h2.2.2 q1 q2 (g := oF ρ m (pc, L, .int i :: .ref j :: S, A, c, n)) rfl rfl (hb hby hd) target k⟩
theorem s_caload {j : Addr} {vs : List Value} {i : Int32} {w : Value} (hd : decode bytes pc = .ok (.caload, 1)) (hA : A[j]? = some (.inr (.char, vs))) (h0 : ¬ i < 0) (hv : vs[i.toNatClampNeg]? = some w) : Sim l Z K ρ own mn bytes ml R (pc, L, .int i :: .ref j :: S, A, c, n) (pc + 1, L, w :: S, A, c, n) :=
  fun p e s m args below meth cd T locs X hx hZ hby hml hown hnm hR hF hL => by
    obtain ⟨h1, cl, h2, h3⟩ := hR.arr hA
    obtain ⟨q1, q2⟩ := oin h3 h0 hv
    exact ⟨T, locs, X, hR, hF, hL, fun target k => X.caload hx h2.1 (State.isArrayOf_alike hZ.alike h2.2.1) h2.2.2 q1 q2 (g := oF ρ m (pc, L, .int i :: .ref j :: S, A, c, n)) rfl rfl (hb hby hd) target k⟩
theorem s_aaload {j : Addr} {vs : List Value} {i : Int32} {w : Value} {ty : FieldType} (hd : decode bytes pc = .ok (.aaload, 1)) (hA : A[j]? = some (.inr (ty, vs))) (hty : ty.isReference = true) (h0 : ¬ i < 0) (hv : vs[i.toNatClampNeg]? = some w) : Sim l Z K ρ own mn bytes ml R (pc, L, .int i :: .ref j :: S, A, c, n) (pc + 1, L, w :: S, A, c, n) :=
  fun p e s m args below meth cd T locs X hx hZ hby hml hown hnm hR hF hL => by
    obtain ⟨h1, cl, h2, h3⟩ := hR.arr hA
    obtain ⟨q1, q2⟩ := oin h3 h0 hv
    exact ⟨T, locs, X, hR, hF, hL, fun target k => X.aaload hx h2.1 (State.isArrayOf_alike hZ.alike h2.2.1) hty h2.2.2 q1 q2 (g := oF ρ m (pc, L, .int i :: .ref j :: S, A, c, n)) rfl rfl (hb hby hd) target k⟩
theorem oRep.arrSet {h h' : Heap} {j : Nat} {ty : FieldType} {vs : List Value} {i : Nat} {w : Value} (H : oRep Z K ρ h A) (hA : A[j]? = some (.inr (ty, vs))) (hft : fits ty (ov ρ w) = true) (W : Wr h h' (ρ.1 j) i (ov ρ w)) : oRep Z K ρ h' (A.set j (.inr (ty, vs.set i w))) := by
  obtain ⟨h1, cl, h2, h3⟩ := H.arr hA
  refine H.wr W ⟨⟨by simpa using h1.1, fun u hu => (List.mem_or_eq_of_mem_set hu).elim (h1.2 u) (fun q => q ▸ hft)⟩, cl.setSlot i (ov ρ w), h2.same W, ?_⟩
  show cl.slots.setIfInBounds i (ov ρ w) = _
  rw [h3]; simp
theorem s_iastore {j : Addr} {vs : List Value} {i : Int32} {x : Int32} (hd : decode bytes pc = .ok (.iastore, 1)) (hA : A[j]? = some (.inr (.int, vs))) (h0 : ¬ i < 0) (hi : i.toNatClampNeg < vs.length) (hA' : A.set j (.inr (.int, vs.set i.toNatClampNeg (.int x))) = A') : Sim l Z K ρ own mn bytes ml R (pc, L, .int x :: .int i :: .ref j :: S, A, c, n) (pc + 1, L, S, A', c, n) :=
  fun p e s m args below meth cd T locs X hx hZ hby hml hown hnm hR hF hL => by
    obtain ⟨h1, cl, h2, h3⟩ := hR.arr hA
    have q1 : ¬ (i < 0 ∨ cl.slots.size ≤ i.toNatClampNeg) := fun q => q.elim h0 fun q => by rw [h3] at q; simp at q; omega
    obtain ⟨T', h', X', e', W, st⟩ := stI X hx hZ rfl h2 q1 (g := oF ρ m (pc, L, .int x :: .int i :: .ref j :: S, A, c, n)) rfl rfl (hb hby hd)
    subst e' hA'
    exact ⟨T', _, X', hR.arrSet (w := .int x) hA rfl W, Fr.snoc X' hF (hR.ge j), hL, st⟩
theorem s_lastore {j : Addr} {vs : List Value} {i : Int32} {x : Int64} (hd : decode bytes pc = .ok (.lastore, 1)) (hA : A[j]? = some (.inr (.long, vs))) (h0 : ¬ i < 0) (hi : i.toNatClampNeg < vs.length) (hA' : A.set j (.inr (.long, vs.set i.toNatClampNeg (.long x))) = A') : Sim l Z K ρ own mn bytes ml R (pc, L, .long x :: .int i :: .ref j :: S, A, c, n) (pc + 1, L, S, A', c, n) :=
  fun p e s m args below meth cd T locs X hx hZ hby hml hown hnm hR hF hL => by
    obtain ⟨h1, cl, h2, h3⟩ := hR.arr hA
    have q1 : ¬ (i < 0 ∨ cl.slots.size ≤ i.toNatClampNeg) := fun q => q.elim h0 fun q => by rw [h3] at q; simp at q; omega
    obtain ⟨T', h', X', e', W, st⟩ := stJ X hx hZ rfl h2 q1 (g := oF ρ m (pc, L, .long x :: .int i :: .ref j :: S, A, c, n)) rfl rfl (hb hby hd)
    subst e' hA'
    exact ⟨T', _, X', hR.arrSet (w := .long x) hA rfl W, Fr.snoc X' hF (hR.ge j), hL, st⟩
theorem s_bastore {j : Addr} {vs : List Value} {i : Int32} {x : Int32} (hd : decode bytes pc = .ok (.bastore, 1)) (hA : A[j]? = some (.inr (.byte, vs))) (h0 : ¬ i < 0) (hi : i.toNatClampNeg < vs.length) (hA' : A.set j (.inr (.byte, vs.set i.toNatClampNeg (.int x.toInt8.toInt32))) = A') : Sim l Z K ρ own mn bytes ml R (pc, L, .int x :: .int i :: .ref j :: S, A, c, n) (pc + 1, L, S, A', c, n) :=
  fun p e s m args below meth cd T locs X hx hZ hby hml hown hnm hR hF hL => by
    obtain ⟨h1, cl, h2, h3⟩ := hR.arr hA
    have q1 : ¬ (i < 0 ∨ cl.slots.size ≤ i.toNatClampNeg) := fun q => q.elim h0 fun q => by rw [h3] at q; simp at q; omega
    obtain ⟨T', h', X', e', W, st⟩ := stB X hx hZ rfl h2 q1 (g := oF ρ m (pc, L, .int x :: .int i :: .ref j :: S, A, c, n)) rfl rfl (hb hby hd)
    subst e' hA'
    exact ⟨T', _, X', hR.arrSet (w := .int x.toInt8.toInt32) hA (fits_nar_byte x) W, Fr.snoc X' hF (hR.ge j), hL, st⟩
theorem s_castore {j : Addr} {vs : List Value} {i : Int32} {x : Int32} (hd : decode bytes pc = .ok (.castore, 1)) (hA : A[j]? = some (.inr (.char, vs))) (h0 : ¬ i < 0) (hi : i.toNatClampNeg < vs.length) (hA' : A.set j (.inr (.char, vs.set i.toNatClampNeg (.int (nar .char x)))) = A') : Sim l Z K ρ own mn bytes ml R (pc, L, .int x :: .int i :: .ref j :: S, A, c, n) (pc + 1, L, S, A', c, n) :=
  fun p e s m args below meth cd T locs X hx hZ hby hml hown hnm hR hF hL => by
    obtain ⟨h1, cl, h2, h3⟩ := hR.arr hA
    have q1 : ¬ (i < 0 ∨ cl.slots.size ≤ i.toNatClampNeg) := fun q => q.elim h0 fun q => by rw [h3] at q; simp at q; omega
    obtain ⟨T', h', X', e', W, st⟩ := stC X hx hZ rfl h2 q1 (g := oF ρ m (pc, L, .int x :: .int i :: .ref j :: S, A, c, n)) rfl rfl (hb hby hd)
    subst e' hA'
    exact ⟨T', _, X', hR.arrSet (w := .int (nar .char x)) hA (fits_nar_char x) W, Fr.snoc X' hF (hR.ge j), hL, st⟩
theorem oRep.obj {h : Heap} {j cid : Nat} {vs : List Value} (H : oRep Z K ρ h A) (hA : A[j]? = some (.inl (cid, vs))) : Exa Z h (ρ.1 j) (K cid).1 ∧ ∀ (i : Nat) (f : String × String × String) (v : Value), (K cid).2[i]? = some f → vs[i]? = some v → Fld Z h (ρ.1 j) f.1 f.2.1 f.2.2 (ov ρ v) := H.2 j _ hA
theorem s_getfield {j : Addr} {cid i x : Nat} {vs : List Value} {w : Value} {O nm d : String} (wl : (Jvm.Cond.fieldLink own x O nm d).before a0 Z = true) (hf : (K cid).2[i]? = some (O, nm, d)) (hd : decode bytes pc = .ok (.getfield x, 3)) (hA : A[j]? = some (.inl (cid, vs))) (hv : vs[i]? = some w) : Sim l Z K ρ own mn bytes ml R (pc, L, .ref j :: S, A, c, n) (pc + 3, L, w :: S, A, c, n) :=
  fun p e s m args below meth cd T locs X hx hZ hby hml hown hnm hR hF hL => by
    have F := (hR.obj hA).2 i _ _ hf hv
    obtain ⟨T', X', e', st⟩ := getF X hx hZ hown (host := "") (Or.inl wl) Via.refl rfl F (g := oF ρ m (pc, L, .ref j :: S, A, c, n)) rfl rfl (hb hby hd)
    exact ⟨T', locs, X', by rw [e']; exact hR, hF, hL, st⟩
theorem oRep.fldSet {h h' : Heap} {j cid i : Nat} {vs : List Value} {f : String × String × String} {w old : Value} (H : oRep Z K ρ h A) (hK : oKOk Z a0 K cid) (hA : A[j]? = some (.inl (cid, vs))) (hf : (K cid).2[i]? = some f) (ho : vs[i]? = some old) (W : Wr h h' (ρ.1 j) (Jvm.RoadKit.slotOf Z f.1 f.2.1 f.2.2) (ov ρ w)) : oRep Z K ρ h' (A.set j (.inl (cid, vs.set i w))) := by
  obtain ⟨h1, h2⟩ := H.obj hA
  refine H.wr W ⟨h1.wr W, fun k g u hg hu => ?_⟩
  by_cases q : k = i
  · subst q
    have hg' : (K cid).2[k]? = some g := hg
    rw [hf] at hg'; cases hg'
    have hu' : (vs.set k w)[k]? = some u := hu
    rw [List.getElem?_set_self (List.getElem?_eq_some_iff.mp ho).1] at hu'; cases hu'
    exact (h2 k f old hf ho).same W
  · have hu' : (vs.set i w)[k]? = some u := hu
    rw [List.getElem?_set_ne (Ne.symm q)] at hu'
    have hg' : (K cid).2[k]? = some g := hg
    obtain ⟨l1, t1, p1⟩ := hK.1.at k g hg'
    obtain ⟨l2, t2, p2⟩ := hK.1.at i f hf
    exact (h2 k g u hg' hu').other W (Or.inr (slot_ne l1 l2 (hK.2 k i g f hg' hf q) p1 p2))
theorem s_putfield {j : Addr} {cid i x kk : Nat} {vs : List Value} {w old : Value} {O nm d : String} {ty : FieldType} (wl : (Jvm.Cond.fieldLink own x O nm d).before a0 Z = true) (hK : oKOk Z a0 K cid) (hf : (K cid).2[i]? = some (O, nm, d))
    (lay : (Jvm.Cond.lays (K cid).1 O nm d).before a0 Z = true ∨ ((Jvm.Cond.laysFinal (K cid).1 O nm d).before a0 Z = true ∧ own = O ∧ mn = "<init>")) (wi : (Jvm.Cond.instantiable (K cid).1 kk).before a0 Z = true) (hty : parseFieldDescriptor d = some ty) (hn : narrow ty (ov ρ w) = ov ρ w) (hft : fits ty (ov ρ w) = true)
    (hd : decode bytes pc = .ok (.putfield x, 3)) (hA : A[j]? = some (.inl (cid, vs))) (ho : vs[i]? = some old) (hA' : A.set j (.inl (cid, vs.set i w)) = A') : Sim l Z K ρ own mn bytes ml R (pc, L, w :: .ref j :: S, A, c, n) (pc + 3, L, S, A', c, n) :=
  fun p e s m args below meth cd T locs X hx hZ hby hml hown hnm hR hF hL => by
    have F := (hR.obj hA).2 i _ _ hf ho
    obtain ⟨T', h', X', e', W, st⟩ := putF X hx hZ hown (host := "") (Or.inl wl) Via.refl rfl F (hR.obj hA).1 (lay.imp id fun q => ⟨q.1, q.2.1, hnm.trans q.2.2⟩) wi hty hn hft (g := oF ρ m (pc, L, w :: .ref j :: S, A, c, n)) rfl rfl (hb hby hd)
    subst e' hA'
    exact ⟨T', _, X', hR.fldSet hK hA hf ho W, Fr.snoc X' hF (hR.ge j), hL, st⟩
theorem s_putfieldZ {j : Addr} {cid i x kk : Nat} {vs : List Value} {u u' : Int32} {old : Value} {O nm : String} (wl : (Jvm.Cond.fieldLink own x O nm "Z").before a0 Z = true) (hK : oKOk Z a0 K cid) (hf : (K cid).2[i]? = some (O, nm, "Z"))
    (lay : (Jvm.Cond.lays (K cid).1 O nm "Z").before a0 Z = true ∨ ((Jvm.Cond.laysFinal (K cid).1 O nm "Z").before a0 Z = true ∧ own = O ∧ mn = "<init>")) (wi : (Jvm.Cond.instantiable (K cid).1 kk).before a0 Z = true) (hu : u &&& 1 = u')
    (hd : decode bytes pc = .ok (.putfield x, 3)) (hA : A[j]? = some (.inl (cid, vs))) (ho : vs[i]? = some old) (hA' : A.set j (.inl (cid, vs.set i (.int u'))) = A') : Sim l Z K ρ own mn bytes ml R (pc, L, .int u :: .ref j :: S, A, c, n) (pc + 3, L, S, A', c, n) :=
  fun p e s m args below meth cd T locs X hx hZ hby hml hown hnm hR hF hL => by
    have F := (hR.obj hA).2 i _ _ hf ho
    obtain ⟨T', h', X', e', W, st⟩ := putFN X hx hZ hown wl Via.refl rfl F (hR.obj hA).1 (lay.imp id fun q => ⟨q.1, q.2.1, hnm.trans q.2.2⟩) wi (ty := .boolean) (v' := .int (nar .boolean u)) (by decide) rfl (fits_nar_bool u) (g := oF ρ m (pc, L, .int u :: .ref j :: S, A, c, n)) rfl rfl (hb hby hd)
    subst e' hA' hu
    exact ⟨T', _, X', hR.fldSet (w := .int (u &&& 1)) hK hA hf ho W, Fr.snoc X' hF (hR.ge j), hL, st⟩
theorem opush_ext (h : Heap) (cl : Cell) : Ext h (h.push cl) := ⟨by simp, fun a d q => by rw [Array.getElem?_push_lt (Array.getElem?_eq_some_iff.mp q).1]; exact (Array.getElem?_eq_getElem _).symm.trans q⟩
theorem opush_at (h : Heap) (cl : Cell) : (h.push cl)[h.size]? = some cl := by simp
theorem s_new {cid x sz j : Nat} {vs : List Value} (wl : (Jvm.Cond.classLink own x (K cid).1).before a0 Z = true) (wi : (Jvm.Cond.instantiable (K cid).1 sz).before a0 Z = true) (wz : (Jvm.Cond.initialized (K cid).1).before a0 Z = true) (hK : oKOk Z a0 K cid) (hv : oDflt (K cid).2 vs)
    (hd : decode bytes pc = .ok (.new x, 3)) (hj : A.length = j) (hc : c + 1 ≤ R.cells) (hn : n + sz ≤ R.slots) (hA' : A ++ [.inl (cid, vs)] = A') : Sim l Z K ρ own mn bytes ml R (pc, L, S, A, c, n) (pc + 3, L, .ref j :: S, A', c + 1, n + sz) :=
  fun p e s m args below meth cd T locs X hx hZ hby hml hown hnm hR hF hL => by
    obtain ⟨vm', cC, kC, h1, h2, h3, h4, X', st⟩ := X.newCold hx hown (mv hZ wl) (mv hZ wi) (mv hZ wz) (g := oF ρ m (pc, L, S, A, c, n)) rfl (hb hby hd) hc hn
    subst hA' hj
    rw [hZ.alike.findClass] at h1
    obtain ⟨kZ, z1, -⟩ := Vm.findClass_spec h1
    obtain ⟨k', z2, z3⟩ := hZ.alike.2.2 _ _ z1
    cases h2.symm.trans z2
    have ei : kC.instanceTypes = kZ.instanceTypes := by rw [z3]
    have hN := opush_at T.heap { cls := cC, slots := kC.instanceTypes.map defaultValue, vm := .none }
    have hrep := hR.push (opush_ext T.heap { cls := cC, slots := kC.instanceTypes.map defaultValue, vm := .none }) (by simp) (c := .inl (cid, vs)) ⟨⟨_, kZ, hN, h1, z1, rfl, fun _ => by simp [ei]⟩, fun i f w hf hw => by
      obtain ⟨t, ht, rfl⟩ := hv.at i f w hf hw
      obtain ⟨lf, -⟩ := hK.1.at i f hf
      obtain ⟨c1, k1, cf, kf, i', f', a1, a2, a3, a4, a5, a6, -⟩ := lf.spec
      cases h1.symm.trans a1
      cases z1.symm.trans a2
      rw [ov_dflt]
      exact ⟨_, cf, kf, i', f', hN, a3, a4, by simp, rfl, a5, by simp [ei, a6, (State.fieldFound?_type a3 ht).2]⟩⟩
    refine ⟨_, locs, X', hrep, hF, hL, fun target k => st target ?_⟩
    have e0 : T.heap.size = ρ.1 A.length := hR.1.1
    rw [e0]; exact k
theorem s_newarray {aty : ArrayType} {i : Int32} {j q cap : Nat} (w : (Jvm.Cond.arrayClass (newarray.typeOf aty)).before a0 Z = true) (hd : decode bytes pc = .ok (.newarray aty, 2)) (hj : A.length = j) (h0 : ¬ i < 0) (hq : i.toNatClampNeg = q) (hcap : q ≤ cap) (hb8 : cap * 8 ≤ 536870912) (hc : c + 1 ≤ R.cells) (hn : n + cap ≤ R.slots)
    (hA' : A ++ [.inr (newarray.typeOf aty, List.replicate q (defaultValue (newarray.typeOf aty)))] = A') : Sim l Z K ρ own mn bytes ml R (pc, L, .int i :: S, A, c, n) (pc + 2, L, .ref j :: S, A', c + 1, n + cap) :=
  fun p e s m args below meth cd T locs X hx hZ hby hml hown hnm hR hF hL => by
    have hcb : componentBytes (newarray.typeOf aty) ≤ 8 := by cases aty <;> decide
    subst hq
    obtain ⟨cA, kA, comp, h1, h2, h3, X', st⟩ := X.newarrayPrim hx (mvA hZ w) (g := oF ρ m (pc, L, .int i :: S, A, c, n)) rfl (hb hby hd) rfl h0 (Nat.le_trans (Nat.mul_le_mul hcap hcb) hb8) hc (by show n + _ ≤ _; omega)
    subst hA' hj
    rw [hZ.alike.findClass] at h1
    obtain ⟨kZ, z1, -⟩ := Vm.findClass_spec h1
    obtain ⟨k', z2, z3⟩ := hZ.alike.2.2 _ _ z1
    cases h2.symm.trans z2
    have hrep := hR.push (opush_ext T.heap { cls := cA, slots := Array.replicate i.toNatClampNeg (defaultValue (newarray.typeOf aty)), vm := .none }) (by simp) (c := .inr (newarray.typeOf aty, List.replicate i.toNatClampNeg (defaultValue (newarray.typeOf aty)))) ⟨⟨by show (List.replicate _ _).length < 2 ^ 31; rw [List.length_replicate]; omega, fun u hu => by rw [(List.mem_replicate.mp hu).2, ov_dflt]; cases aty <;> rfl⟩, _, ⟨opush_at _ _, ⟨by simp, kZ, z1, comp, by rw [← h3, z3]⟩, by simp⟩, by simp [ov_dflt]⟩
    refine ⟨_, locs, X'.more (Nat.le_refl _) (by show n + _ ≤ n + cap; omega), hrep, hF, hL, fun target k => st target ?_⟩
    have e0 : T.heap.size = ρ.1 A.length := hR.1.1
    rw [e0]; exact k
theorem s_anewarray {C : String} {x : Nat} {i : Int32} {j q : Nat} (w1 : (Jvm.Cond.classLink own x C).before a0 Z = true) (w2 : (Jvm.Cond.arrayOver (.object C)).before a0 Z = true) (hd : decode bytes pc = .ok (.anewarray x, 3)) (hj : A.length = j) (h0 : ¬ i < 0) (hq : i.toNatClampNeg = q) (hb8 : q * 8 ≤ 536870912) (hc : c + 1 ≤ R.cells) (hn : n + q ≤ R.slots)
    (hA' : A ++ [.inr (.object C, List.replicate q .null)] = A') : Sim l Z K ρ own mn bytes ml R (pc, L, .int i :: S, A, c, n) (pc + 3, L, .ref j :: S, A', c + 1, n + q) :=
  fun p e s m args below meth cd T locs X hx hZ hby hml hown hnm hR hF hL => by
    have w2' : (Jvm.Cond.arrayOver (.object C)).before args s = true := Cond.arrayOver_alike hZ.alike w2
    subst hq
    obtain ⟨vm₁, cA, kA, comp, -, h1, h2, h3, h4, X', st⟩ := X.anewarrayRefK hx hown (mv hZ w1) w2' (g := oF ρ m (pc, L, .int i :: S, A, c, n)) rfl (hb hby hd) rfl h0 (by omega) hc hn
    subst hA' hj
    rw [hZ.alike.findClass] at h1
    obtain ⟨kZ, z1, -⟩ := Vm.findClass_spec h1
    obtain ⟨k', z2, z3⟩ := hZ.alike.2.2 _ _ z1
    cases h2.symm.trans z2
    have kk : kZ.kind = .array comp (.object C) := by rw [← h3, z3]
    have hrep := hR.push (opush_ext T.heap { cls := cA, slots := Array.replicate i.toNatClampNeg .null, vm := .none }) (by simp) (c := .inr (.object C, List.replicate i.toNatClampNeg .null)) ⟨⟨by show (List.replicate _ _).length < 2 ^ 31; rw [List.length_replicate]; omega, fun u hu => by rw [(List.mem_replicate.mp hu).2]; rfl⟩, _, ⟨opush_at _ _, ⟨by simp, kZ, z1, comp, kk⟩, by simp⟩, by simp [ov]⟩
    refine ⟨_, locs, X', hrep, hF, hL, fun target k => st target ?_⟩
    have e0 : T.heap.size = ρ.1 A.length := hR.1.1
    rw [e0]; exact k
theorem s_initO {x W : Nat} {j : Addr} (w1 : (Jvm.Cond.methodLink own x Lib.objectInit).before a0 Z = true) (w2 : (Jvm.Cond.instanceMethod Lib.objectInit).before a0 Z = true) (w3 : (Jvm.Cond.code Lib.objectInit ⟨#[0xb1]⟩ 1 none).before a0 Z = true) (hd : decode bytes pc = .ok (.invokespecial x, 3)) (hf : 1 ≤ R.frames) (hW : (S.map fun v => v.category).sum = W) (hl : W + 12 ≤ R.locals) : Sim l Z K ρ own mn bytes ml R (pc, L, .ref j :: S, A, c, n) (pc + 3, L, S, A, c, n) :=
  fun p e s m args below meth cd T locs X hx hZ hby hml hown hnm hR hF hL => by
    obtain ⟨T', X', e', st⟩ := initO X hx hZ hown w1 w2 w3 rfl (g := oF ρ m (pc, L, .ref j :: S, A, c, n)) rfl (by rw [hml, ← hL]; simp) rfl (hb hby hd) hf (W := W) (by rw [← hW]; simp [Function.comp_def, ov_cat]) hl
    exact ⟨T', locs, X', by rw [e']; exact hR, hF, hL, st⟩
theorem ocat (S : List Value) : ((S.map (ov ρ)).map fun v => v.category).sum = (S.map fun v => v.category).sum := by simp [Function.comp_def, ov_cat]
theorem otl (v : Option Value) : (v.map (ov ρ)).toList = v.toList.map (ov ρ) := by cases v <;> rfl
theorem s_callS {x W : Nat} {y : MethodName} {by' : ByteArray} {ml' : Nat} {rt : Option FieldType} {rm : Room} {as : List Value} {S0 : List Value} (w1 : (Jvm.Cond.methodLink own x y).before a0 Z = true) (w2 : (Jvm.Cond.static y).before a0 Z = true) (w3 : (Jvm.Cond.initialized y.cls).before a0 Z = true) (w4 : (Jvm.Cond.code y by' ml' rt).before a0 Z = true)
    (hy : y.cls ≠ "java/lang/invoke/MethodHandle" ∧ y.cls ≠ "java/lang/invoke/VarHandle") (hlen : ∀ sig, parseMethodDescriptor y.desc = some sig → as.length = sig.parameters.length) (hd : decode bytes pc = .ok (.invokestatic x, 3)) (hM : Met l Z K ρ y by' ml' rt rm [] as A v A')
    (hS : S0 = as.reverse ++ S) (hW : (S.map fun v => v.category).sum = W) (hf : rm.frames + 1 ≤ R.frames) (hl : W + (ml' + 11) + rm.locals ≤ R.locals) (hc : c + rm.cells ≤ R.cells) (hn : n + rm.slots ≤ R.slots) : Sim l Z K ρ own mn bytes ml R (pc, L, S0, A, c, n) (pc + 3, L, v.toList ++ S, A', c + rm.cells, n + rm.slots) :=
  fun p e s m args below meth cd T locs X hx hZ hby hml hown hnm hR hF hL => by
    subst hS
    obtain ⟨_, _, ⟨T1, L1, k1, n1⟩, -, X1, ⟨Lc, hQ, l1, y1, z1⟩, st⟩ := Jvm.LawKit.callS X hx (y := y) hown (mvT hZ w1) (mvT hZ w2) (mvT hZ w3) (mvT hZ w4) hy (backOf (W := W) (Q := fun v' h L => v' = v.map (ov ρ) ∧ Fr (ρ.1 0) L ∧ oRep Z K ρ h A') (hM T.heap hR) hZ w4 w3 hf hl) (g := oF ρ m (pc, L, as.reverse ++ S, A, c, n)) rfl (by rw [hml, ← hL]; simp) (argsL := as.map (ov ρ)) (rest := S.map (ov ρ)) (fun sig q => by rw [List.length_map]; exact hlen sig q) (by show (as.reverse ++ S).map (ov ρ) = _; simp) (by show 2 * 0 + _ ≤ _; rw [ocat, hW]; omega) (hb hby hd) (fun _ _ => ⟨rfl, rfl, hc, hn⟩)
    dsimp only [Pt.U, Pt.locs, Pt.cells, Pt.slots] at X1 l1 y1 z1 st hQ
    subst l1 y1 z1
    obtain ⟨rfl, N1, R1⟩ := hQ
    refine ⟨T1, _, X1, R1, Fr.app hF N1, hL, fun target k => st target ?_⟩
    have e : (v.toList ++ S).map (ov ρ) = (v.map (ov ρ)).toList ++ S.map (ov ρ) := by rw [List.map_append, otl]
    rw [← e]; exact k
theorem s_callI {x W : Nat} {y : MethodName} {by' : ByteArray} {ml' : Nat} {rm : Room} {as : List Value} {j : Addr} {S0 : List Value} (hy1 : y.name = "<init>") (w1 : (Jvm.Cond.methodLink own x y).before a0 Z = true) (w2 : (Jvm.Cond.instanceMethod y).before a0 Z = true) (w3 : (Jvm.Cond.initialized y.cls).before a0 Z = true) (w4 : (Jvm.Cond.code y by' ml' none).before a0 Z = true)
    (hy : y.cls ≠ "java/lang/invoke/MethodHandle" ∧ y.cls ≠ "java/lang/invoke/VarHandle") (hlen : ∀ sig, parseMethodDescriptor y.desc = some sig → as.length = sig.parameters.length) (hd : decode bytes pc = .ok (.invokespecial x, 3)) (hM : Met l Z K ρ y by' ml' none rm [] (.ref j :: as) A v A')
    (hS : S0 = as.reverse ++ .ref j :: S) (hW : (S.map fun v => v.category).sum = W) (hf : rm.frames + 1 ≤ R.frames) (hl : W + (ml' + 11) + rm.locals ≤ R.locals) (hc : c + rm.cells ≤ R.cells) (hn : n + rm.slots ≤ R.slots) : Sim l Z K ρ own mn bytes ml R (pc, L, S0, A, c, n) (pc + 3, L, v.toList ++ S, A', c + rm.cells, n + rm.slots) :=
  fun p e s m args below meth cd T locs X hx hZ hby hml hown hnm hR hF hL => by
    subst hS
    obtain ⟨_, _, ⟨T1, L1, k1, n1⟩, -, X1, ⟨Lc, hQ, l1, y1, z1⟩, st⟩ := X.specialBack hx (y := y) hy1 hown (mvT hZ w1) (mvT hZ w2) (mvT hZ w4) hy (backOf (W := W) (Q := fun v' h L => v' = v.map (ov ρ) ∧ Fr (ρ.1 0) L ∧ oRep Z K ρ h A') (hM T.heap hR) hZ w4 w3 hf hl) (g := oF ρ m (pc, L, as.reverse ++ .ref j :: S, A, c, n)) rfl (by rw [hml, ← hL]; simp) (Steps.refl _) (a := ρ.1 j) (argsL := as.map (ov ρ)) (rest := S.map (ov ρ)) (fun sig q => by rw [List.length_map]; exact hlen sig q) (by show (as.reverse ++ .ref j :: S).map (ov ρ) = _; simp [ov]) (by show 2 * 0 + _ ≤ _; rw [ocat, hW]; omega) (hb hby hd) (fun _ _ => ⟨rfl, rfl, hc, hn⟩)
    dsimp only [Pt.U, Pt.locs, Pt.cells, Pt.slots] at X1 l1 y1 z1 st hQ
    subst l1 y1 z1
    obtain ⟨rfl, N1, R1⟩ := hQ
    refine ⟨T1, _, X1, R1, Fr.app hF N1, hL, fun target k => st.trans ?_⟩
    have e : (v.toList ++ S).map (ov ρ) = (v.map (ov ρ)).toList ++ S.map (ov ρ) := by rw [List.map_append, otl]
    rw [← e]; exact k
theorem s_callV {x W cid : Nat} {y : MethodName} {by' : ByteArray} {ml' : Nat} {rt : Option FieldType} {rm : Room} {as : List Value} {j : Addr} {vs : List Value} {S0 : List Value} (w1 : (Jvm.Cond.methodLink own x y).before a0 Z = true) (w2 : (Jvm.Cond.instanceMethod y).before a0 Z = true) (w3 : (Jvm.Cond.initialized y.cls).before a0 Z = true) (w4 : (Jvm.Cond.code y by' ml' rt).before a0 Z = true)
    (w5 : (Jvm.Cond.declares y).before a0 Z = true) (w6 : (Jvm.Cond.selects (K cid).1 y y).before a0 Z = true) (hy : y.cls ≠ "java/lang/invoke/MethodHandle" ∧ y.cls ≠ "java/lang/invoke/VarHandle") (hC : (K cid).1 = y.cls) (hlen : ∀ sig, parseMethodDescriptor y.desc = some sig → as.length = sig.parameters.length) (hd : decode bytes pc = .ok (.invokevirtual x, 3)) (hA : A[j]? = some (.inl (cid, vs))) (hM : Met l Z K ρ y by' ml' rt rm [] (.ref j :: as) A v A')
    (hS : S0 = as.reverse ++ .ref j :: S) (hW : (S.map fun v => v.category).sum = W) (hf : rm.frames + 1 ≤ R.frames) (hl : W + (ml' + 11) + rm.locals ≤ R.locals) (hc : c + rm.cells ≤ R.cells) (hn : n + rm.slots ≤ R.slots) : Sim l Z K ρ own mn bytes ml R (pc, L, S0, A, c, n) (pc + 3, L, v.toList ++ S, A', c + rm.cells, n + rm.slots) :=
  fun p e s m args below meth cd T locs X hx hZ hby hml hown hnm hR hF hL => by
    subst hS
    obtain ⟨cq, kq, qa, qb, qc⟩ := isOf hZ rfl (hR.obj hA).1
    have w6' : (Jvm.Cond.selects y.cls y y).before a0 Z = true := by rw [← hC]; exact w6
    obtain ⟨_, _, ⟨T1, L1, k1, n1⟩, -, X1, ⟨Lc, hQ, l1, y1, z1⟩, st⟩ := X.virtualBack hx (y := y) (z := y) hown (mvT hZ w1) (mvT hZ w5) (notFace_of_selects (args := #[]) (mvT hZ w6')) (mvT hZ w6) (mvT hZ w2) hy (backOf (W := W) (Q := fun v' h L => v' = v.map (ov ρ) ∧ Fr (ρ.1 0) L ∧ oRep Z K ρ h A') (hM T.heap hR) hZ w4 w3 hf hl) qa qc (g := oF ρ m (pc, L, as.reverse ++ .ref j :: S, A, c, n)) rfl (by rw [hml, ← hL]; simp) (Steps.refl _) (argsL := as.map (ov ρ)) (rest := S.map (ov ρ)) (fun sig q => by rw [List.length_map]; exact hlen sig q) (by show (as.reverse ++ .ref j :: S).map (ov ρ) = _; simp [ov]) (by show 2 * 0 + _ ≤ _; rw [ocat, hW]; omega) (hb hby hd) (fun _ _ => ⟨rfl, rfl, hc, hn⟩)
    dsimp only [Pt.U, Pt.locs, Pt.cells, Pt.slots] at X1 l1 y1 z1 st hQ
    subst l1 y1 z1
    obtain ⟨rfl, N1, R1⟩ := hQ
    refine ⟨T1, _, X1, R1, Fr.app hF N1, hL, fun target k => st.trans ?_⟩
    have e : (v.toList ++ S).map (ov ρ) = (v.map (ov ρ)).toList ++ S.map (ov ρ) := by rw [List.map_append, otl]
    rw [← e]; exact k
theorem s_callP {x W cid kk : Nat} {y : MethodName} {by' : ByteArray} {ml' : Nat} {rt : Option FieldType} {rm : Room} {as : List Value} {j : Addr} {vs : List Value} {S0 : List Value} (w1 : (Jvm.Cond.methodLink own x y).before a0 Z = true) (w2 : (Jvm.Cond.instanceMethod y).before a0 Z = true) (w3 : (Jvm.Cond.initialized y.cls).before a0 Z = true) (w4 : (Jvm.Cond.code y by' ml' rt).before a0 Z = true)
    (w5 : (Jvm.Cond.privateMethod y).before a0 Z = true) (w6 : (Jvm.Cond.instantiable y.cls kk).before a0 Z = true) (hy : y.cls ≠ "java/lang/invoke/MethodHandle" ∧ y.cls ≠ "java/lang/invoke/VarHandle") (hlen : ∀ sig, parseMethodDescriptor y.desc = some sig → as.length = sig.parameters.length) (hd : decode bytes pc = .ok (.invokevirtual x, 3)) (hA : A[j]? = some (.inl (cid, vs))) (hM : Met l Z K ρ y by' ml' rt rm [] (.ref j :: as) A v A')
    (hS : S0 = as.reverse ++ .ref j :: S) (hW : (S.map fun v => v.category).sum = W) (hf : rm.frames + 1 ≤ R.frames) (hl : W + (ml' + 11) + rm.locals ≤ R.locals) (hc : c + rm.cells ≤ R.cells) (hn : n + rm.slots ≤ R.slots) : Sim l Z K ρ own mn bytes ml R (pc, L, S0, A, c, n) (pc + 3, L, v.toList ++ S, A', c + rm.cells, n + rm.slots) :=
  fun p e s m args below meth cd T locs X hx hZ hby hml hown hnm hR hF hL => by
    subst hS
    obtain ⟨cq, q1, q2⟩ := (hR.obj hA).1.cell
    have wi' : (Jvm.Cond.instantiable y.cls kk).before args s = true := mv hZ w6
    obtain ⟨c1, k1, f1, f2, -, f4, -⟩ := Cond.instantiable_spec wi'
    have hni : k1.isInterface = false := by cases q : k1.isInterface <;> simp [q] at f4 ⊢
    have hpv := Cond.privateMethod_at (mvP (args := args) hZ w5)
    have w2' : (Jvm.Cond.instanceMethod y).before args s = true := mvT hZ w2
    have w6' : (Jvm.Cond.selects y.cls y y).before args s = true := selects_self_of_private f1 f2 hni hpv w2' hy
    obtain ⟨_, _, ⟨T1, L1, k1, n1⟩, -, X1, ⟨Lc, hQ, l1, y1, z1⟩, st⟩ := X.privateBack hx (y := y) hown (mvT hZ w1) w2' w6' hpv (mvT hZ w4) hy (backOf (W := W) (Q := fun v' h L => v' = v.map (ov ρ) ∧ Fr (ρ.1 0) L ∧ oRep Z K ρ h A') (hM T.heap hR) hZ w4 w3 hf hl) (g := oF ρ m (pc, L, as.reverse ++ .ref j :: S, A, c, n)) rfl (by rw [hml, ← hL]; simp) (Steps.refl _) (a := ρ.1 j) q1 q2 (argsL := as.map (ov ρ)) (rest := S.map (ov ρ)) (fun sig q => by rw [List.length_map]; exact hlen sig q) (by show (as.reverse ++ .ref j :: S).map (ov ρ) = _; simp [ov]) (by show 2 * 0 + _ ≤ _; rw [ocat, hW]; omega) (hb hby hd) (fun _ _ => ⟨rfl, rfl, hc, hn⟩)
    dsimp only [Pt.U, Pt.locs, Pt.cells, Pt.slots] at X1 l1 y1 z1 st hQ
    subst l1 y1 z1
    obtain ⟨rfl, N1, R1⟩ := hQ
    refine ⟨T1, _, X1, R1, Fr.app hF N1, hL, fun target k => st.trans ?_⟩
    have e : (v.toList ++ S).map (ov ρ) = (v.map (ov ρ)).toList ++ S.map (ov ρ) := by rw [List.map_append, otl]
    rw [← e]; exact k
theorem orun1 (cl : Cell) (i : Nat) (w : Value) : cl.storeRun i [w] = cl.setSlot i w := rfl
theorem s_arraycopy1 {x W : Nat} {j k : Addr} {vs us : List Value} {sp dp : Int32} {w : Value} (w1 : (Jvm.Cond.methodLink own x Jvm.Stand.acN).before a0 Z = true) (w2 : (Jvm.Cond.native Jvm.Stand.acN).before a0 Z = true) (w3 : (Jvm.Cond.static Jvm.Stand.acN).before a0 Z = true) (w4 : (Jvm.Cond.initialized "java/lang/System").before a0 Z = true)
    (hd : decode bytes pc = .ok (.invokestatic x, 3)) (hA : A[j]? = some (.inr (.int, vs))) (hB : A[k]? = some (.inr (.int, us))) (h1 : ¬ sp < 0) (h2 : ¬ dp < 0) (hv : vs[sp.toNatClampNeg]? = some w) (hi : dp.toNatClampNeg < us.length) (hf : 1 ≤ R.frames) (hW : (S.map fun v => v.category).sum = W) (hl : W + 18 ≤ R.locals)
    (hA' : A.set k (.inr (.int, us.set dp.toNatClampNeg w)) = A') : Sim l Z K ρ own mn bytes ml R (pc, L, .int 1 :: .int dp :: .ref k :: .int sp :: .ref j :: S, A, c, n) (pc + 3, L, S, A', c, n) :=
  fun p e s m args below meth cd T locs X hx hZ hby hml hown hnm hR hF hL => by
    subst hA'
    obtain ⟨⟨a1, a1'⟩, cs, a2, a3⟩ := hR.arr hA
    obtain ⟨⟨b1, b1'⟩, ct, b2, b3⟩ := hR.arr hB
    obtain ⟨q1, q2⟩ := oin a3 h1 hv
    have hw : fits .int (ov ρ w) = true := a1' w (List.mem_of_getElem? hv)
    obtain ⟨z, ez⟩ := fit_I hw (Or.inl rfl)
    obtain ⟨os, ks, hks, sc, hsk⟩ := State.isArrayOf_alike hZ.alike a2.2.1
    obtain ⟨od, kd, hkd, dc, hdk⟩ := State.isArrayOf_alike hZ.alike b2.2.1
    have nat : ∀ {x : Int32}, ¬ x < 0 → x.toInt = x.toNatClampNeg := fun {x} q => by
      rw [Int32.lt_iff_toInt_lt] at q; have : (0 : Int32).toInt = 0 := rfl
      simp only [Int32.toNatClampNeg]; omega
    have sz1 : cs.slots.size = vs.length := by rw [a3]; simp
    have sz2 : ct.slots.size = us.length := by rw [b3]; simp
    have e1 : (1 : Int32).toInt = 1 := rfl
    have e1' : (1 : Int32).toNatClampNeg = 1 := rfl
    have hlt := (List.getElem?_eq_some_iff.mp hv).1
    have hgd : cs.slots.getD sp.toNatClampNeg .null = .int z := by rw [Array.getD_eq_getD_getElem?, q2, ez]; rfl
    have hst : cs.stretch sp.toNatClampNeg (1 : Int32).toNatClampNeg = [.int z] := by
      show [cs.slots.getD (sp.toNatClampNeg + 0) .null] = _
      rw [Nat.add_zero, hgd]
    obtain ⟨vm₁, hW₁, X', st⟩ := X.arraycopyK hx hown (mvT hZ w1) (mvT hZ w2) (mvT hZ w3) (mvT hZ w4) (srcPos := sp) (destPos := dp) (n := 1) a2.1 b2.1 os od a2.2.2 b2.2.2 hks hkd hsk hdk rfl h1 h2 (by decide)
      (by rw [nat h1, e1, sz1]; omega) (by rw [nat h2, e1, sz2]; omega) (fun vm hv i hi => by
        have hi0 : i = 0 := by rw [e1'] at hi; omega
        subst hi0
        rw [Nat.add_zero, hgd]; exact ⟨rfl, trivial⟩) (g := oF ρ m (pc, L, .int 1 :: .int dp :: .ref k :: .int sp :: .ref j :: S, A, c, n)) rfl (by rw [hml, ← hL]; simp) rfl (hb hby hd) hf (by show 2 * 0 + _ + (7 + 11) ≤ _; rw [ocat, hW]; omega)
    have ecp : copied cs ct sp dp 1 = ct.setSlot dp.toNatClampNeg (ov ρ w) := by
      show ct.storeRun _ (cs.stretch _ _) = _
      rw [hst, orun1, ez]
    rw [ecp] at X' st
    have hWr : Wr T.heap (T.heap.setIfInBounds (ρ.1 k) (ct.setSlot dp.toNatClampNeg (ov ρ w))) (ρ.1 k) dp.toNatClampNeg (ov ρ w) := ⟨ct, b2.1, b2.plain, by rw [sz2]; exact hi, rfl⟩
    refine ⟨_, _, X', hR.arrSet hB hw hWr, Fr.app hF fun y hy => ?_, hL, st⟩
    have := Jvm.Stand.copyLocs_base hy
    rw [this]; exact hR.ge k
/-! the returns -/
theorem e_return (hd : decode bytes pc = .ok (.return_, 1)) (hr : ret = none) (hc : c ≤ R.cells) (hn : n ≤ R.slots) : Ends l Z K ρ own mn bytes ml R ret (pc, L, [], A, c, n) none A :=
  fun p e s m args below meth cd T locs X hx hZ hby hml hown hnm hR hF hL hrt hlk => by
    obtain ⟨fs, hl, hrun, hended, hW, hsame⟩ := X.leave (v := none) (fun _ => rfl) hlk
    exact ⟨_, locs, X.returnOut hx (hrt.trans hr) (hb hby hd) hl, hrun, hended, hF, hR, hW, hsame.mono hc hn⟩
theorem e_ireturn {z : Int32} (hd : decode bytes pc = .ok (.ireturn, 1)) (hr : ret = some .int) (hc : c ≤ R.cells) (hn : n ≤ R.slots) : Ends l Z K ρ own mn bytes ml R ret (pc, L, .int z :: S, A, c, n) (some (.int z)) A :=
  fun p e s m args below meth cd T locs X hx hZ hby hml hown hnm hR hF hL hrt hlk => by
    obtain ⟨fs, hl, hrun, hended, hW, hsame⟩ := X.leave (v := some (.int z)) (fun h => by rw [hrt, hr] at h; cases h) hlk
    exact ⟨_, locs, retOut X hx (t := .int) (hrt.trans hr) rfl (Or.inl ⟨rfl, Or.inl rfl, z, rfl⟩) (hb hby hd) hl, hrun, hended, hF, hR, hW, hsame.mono hc hn⟩
theorem e_nreturn {z u : Int32} {t : FieldType} (hd : decode bytes pc = .ok (.ireturn, 1)) (hr : ret = some t) (ht : t = .boolean ∨ t = .byte ∨ t = .char ∨ t = .short) (hu : nar t z = u) (hc : c ≤ R.cells) (hn : n ≤ R.slots) : Ends l Z K ρ own mn bytes ml R ret (pc, L, .int z :: S, A, c, n) (some (.int u)) A :=
  fun p e s m args below meth cd T locs X hx hZ hby hml hown hnm hR hF hL hrt hlk => by
    subst hu
    obtain ⟨fs, hl, hrun, hended, hW, hsame⟩ := X.leave (v := some (.int (nar t z))) (fun h => by rw [hrt, hr] at h; cases h) hlk
    exact ⟨_, locs, retN X hx (t := t) (hrt.trans hr) ht (hb hby hd) hl, hrun, hended, hF, hR, hW, hsame.mono hc hn⟩
theorem e_lreturn {z : Int64} (hd : decode bytes pc = .ok (.lreturn, 1)) (hr : ret = some .long) (hc : c ≤ R.cells) (hn : n ≤ R.slots) : Ends l Z K ρ own mn bytes ml R ret (pc, L, .long z :: S, A, c, n) (some (.long z)) A :=
  fun p e s m args below meth cd T locs X hx hZ hby hml hown hnm hR hF hL hrt hlk => by
    obtain ⟨fs, hl, hrun, hended, hW, hsame⟩ := X.leave (v := some (.long z)) (fun h => by rw [hrt, hr] at h; cases h) hlk
    exact ⟨_, locs, retOut X hx (t := .long) (hrt.trans hr) rfl (Or.inr (Or.inl ⟨rfl, rfl, z, rfl⟩)) (hb hby hd) hl, hrun, hended, hF, hR, hW, hsame.mono hc hn⟩
theorem e_areturn {w : Value} {t : FieldType} (hd : decode bytes pc = .ok (.areturn, 1)) (hr : ret = some t) (ht : t.isReference = true) (hw : (ov ρ w).isRef = true) (hc : c ≤ R.cells) (hn : n ≤ R.slots) : Ends l Z K ρ own mn bytes ml R ret (pc, L, w :: S, A, c, n) (some w) A :=
  fun p e s m args below meth cd T locs X hx hZ hby hml hown hnm hR hF hL hrt hlk => by
    have hw' := hw
    obtain ⟨fs, hl, hrun, hended, hW, hsame⟩ := X.leave (v := some (ov ρ w)) (fun h => by rw [hrt, hr] at h; cases h) hlk
    exact ⟨_, locs, retOut X hx (t := t) (hrt.trans hr) (by cases t <;> first | rfl | cases ht) (Or.inr (Or.inr (Or.inr (Or.inr ⟨rfl, ht, hw'⟩)))) (hb hby hd) hl, hrun, hended, hF, hR, hW, hsame.mono hc hn⟩
/-! from the walk to the contract -/
def oE0 : List Value → List Slot
  | [] => []
  | v :: vs => if v.category = 2 then .val v :: .second :: oE0 vs else .val v :: oE0 vs
def oE (as : List Value) (ml : Nat) : List Slot := oE0 as ++ List.replicate (ml - (oE0 as).length) .unset
theorem oE0_ok (as : List Value) (acc : List Slot) : ((as.map (ov ρ)).toArray.foldl (init := acc.toArray) fun acc v => if v.category = 2 then (acc.push (.val v)).push .second else acc.push (.val v)) = (acc ++ (oE0 as).map (osl ρ)).toArray := by
  induction as generalizing acc with
  | nil => simp [oE0]
  | cons v vs ih =>
    have h := ih
    simp only [List.map_cons, List.foldl_toArray', List.foldl_cons, ov_cat] at h ⊢
    by_cases q : v.category = 2
    · have e : (acc.toArray.push (Slot.val (ov ρ v))).push .second = (acc ++ [Slot.val (ov ρ v), Slot.second]).toArray := by simp
      rw [if_pos q, e, h]; simp [oE0, q, osl]
    · have e : acc.toArray.push (Slot.val (ov ρ v)) = (acc ++ [Slot.val (ov ρ v)]).toArray := by simp
      rw [if_neg q, e, h]; simp [oE0, q, osl]
theorem oentry {as : List Value} {L0 : List Slot} (h : oE as ml = L0) (m : MethodId) : entryFrame m (as.map (ov ρ)).toArray ml = mkF m 0 (L0.map (osl ρ)).toArray [] := by
  subst h
  have e := oE0_ok (ρ := ρ) as []
  have q : argsToLocals (as.map (ov ρ)).toArray ml = ((oE as ml).map (osl ρ)).toArray := by
    have e' : ∀ X : Array Slot, X = (([] : List Slot) ++ (oE0 as).map (osl ρ)).toArray → X ++ Array.replicate (ml - X.size) Slot.unset = ((oE as ml).map (osl ρ)).toArray := fun X hX => by rw [hX]; simp [oE, osl]
    have e2 := e' _ e
    exact e2
  show ({ method := m, pc := 0, locals := argsToLocals _ ml, stack := [], locked := none } : JFrame) = _
  rw [q]
theorem Met.of {y : MethodName} {rm : Room} {ws : List Jvm.Cond} {as : List Value} {L0 : List Slot} (hp : plainFor y = true) (he : ∀ m, entryFrame m (as.map (ov ρ)).toArray ml = mkF m 0 (L0.map (osl ρ)).toArray []) (hL0 : L0.length = ml)
    (hE : Ends l Z K ρ y.cls y.name bytes ml rm ret (0, L0, [], A, 0, 0) v A') : Met l Z K ρ y bytes ml ret rm ws as A v A' := fun h0 hR0 => by
  refine MetFree.of_bodySF hp hisR ?_
  intro p e s m args below meth c s₁ Bd hml0 hP hK
  obtain ⟨rfl, hZ, hh⟩ := hP
  have hown : s.vm.findClass y.cls = some m.cls := findClass_of_methodNamed Bd.named
  have hnm := (name_of_methodNamed Bd.named Bd.method).1
  have X0 : Stand p l e rm s m (as.map (ov ρ)).toArray below meth c s₁ [] 0 0 := Stand.of_body Bd
  have e0 : s₁.heap = h0 := by rw [← hh, Bd.state]; rfl
  obtain ⟨s2, L, g1, g2, g3, g4, g5, g6, g7⟩ := hE p e s m _ below meth c s₁ [] X0 Bd.exec hZ Bd.bytes hml0 hown hnm (by show oRep Z K ρ s₁.heap A; rw [e0]; exact hR0) (Fr.nil _) hL0 Bd.returns Bd.notSynchronized
  refine ⟨s2, _, castTop (he m) g1, g2, g3, _, L, rfl, ⟨rfl, g4, g5⟩, ⟨_, rfl⟩, g6, g7⟩
theorem Met.ofE {y : MethodName} {rm : Room} {ws : List Jvm.Cond} {as : List Value} {L0 : List Slot} (hp : plainFor y = true) (he : ∀ m, entryFrame m (as.map (ov ρ)).toArray ml = mkF m 0 (L0.map (osl ρ)).toArray []) (hL0 : L0.length = ml)
    (hE : EndsE l Z K ρ y.cls y.name bytes ml rm ret (0, L0, [], A, 0, 0) v) : ∃ A', Met l Z K ρ y bytes ml ret rm ws as A v A' := hE.imp fun _ h => Met.of hp he hL0 h
end Layer

/-! ARITH: ints and longs by their unsigned numbers -/
def u32 (x : Int32) : Nat := x.toBitVec.toNat
def u64 (x : Int64) : Nat := x.toBitVec.toNat
theorem u32_lt (x : Int32) : u32 x < 4294967296 := x.toBitVec.isLt
theorem u64_lt (x : Int64) : u64 x < 18446744073709551616 := x.toBitVec.isLt
theorem u32_inj {x y : Int32} (h : u32 x = u32 y) : x = y := Int32.toBitVec_inj.mp (BitVec.eq_of_toNat_eq h)
theorem u64_inj {x y : Int64} (h : u64 x = u64 y) : x = y := Int64.toBitVec_inj.mp (BitVec.eq_of_toNat_eq h)
theorem u32_toInt (x : Int32) : x.toInt = if 2 * u32 x < 4294967296 then (u32 x : Int) else (u32 x : Int) - 4294967296 := BitVec.toInt_eq_toNat_cond x.toBitVec
theorem u64_toInt (x : Int64) : x.toInt = if 2 * u64 x < 18446744073709551616 then (u64 x : Int) else (u64 x : Int) - 18446744073709551616 := BitVec.toInt_eq_toNat_cond x.toBitVec
theorem u32_nn {x : Int32} (h : 0 ≤ x.toInt) : (u32 x : Int) = x.toInt := by have h1 := u32_toInt x; have := u32_lt x; split at h1 <;> omega
theorem u64_nn {x : Int64} (h : 0 ≤ x.toInt) : (u64 x : Int) = x.toInt := by have h1 := u64_toInt x; have := u64_lt x; split at h1 <;> omega
theorem u32_and (x y : Int32) : u32 (x &&& y) = u32 x &&& u32 y := by show (x &&& y).toBitVec.toNat = _; rw [Int32.toBitVec_and, BitVec.toNat_and]; rfl
theorem u32_or (x y : Int32) : u32 (x ||| y) = u32 x ||| u32 y := by show (x ||| y).toBitVec.toNat = _; rw [Int32.toBitVec_or, BitVec.toNat_or]; rfl
theorem u32_xor (x y : Int32) : u32 (x ^^^ y) = u32 x ^^^ u32 y := by show (x ^^^ y).toBitVec.toNat = _; rw [Int32.toBitVec_xor, BitVec.toNat_xor]; rfl
theorem u64_and (x y : Int64) : u64 (x &&& y) = u64 x &&& u64 y := by show (x &&& y).toBitVec.toNat = _; rw [Int64.toBitVec_and, BitVec.toNat_and]; rfl
theorem u64_or (x y : Int64) : u64 (x ||| y) = u64 x ||| u64 y := by show (x ||| y).toBitVec.toNat = _; rw [Int64.toBitVec_or, BitVec.toNat_or]; rfl
theorem u64_xor (x y : Int64) : u64 (x ^^^ y) = u64 x ^^^ u64 y := by show (x ^^^ y).toBitVec.toNat = _; rw [Int64.toBitVec_xor, BitVec.toNat_xor]; rfl
theorem u32_add (x y : Int32) : u32 (x + y) = (u32 x + u32 y) % 4294967296 := by show (x + y).toBitVec.toNat = _; rw [Int32.toBitVec_add, BitVec.toNat_add]; rfl
theorem u64_add (x y : Int64) : u64 (x + y) = (u64 x + u64 y) % 18446744073709551616 := by show (x + y).toBitVec.toNat = _; rw [Int64.toBitVec_add, BitVec.toNat_add]; rfl
theorem u32_mul (x y : Int32) : u32 (x * y) = (u32 x * u32 y) % 4294967296 := by show (x * y).toBitVec.toNat = _; rw [Int32.toBitVec_mul, BitVec.toNat_mul]; rfl
theorem u64_mul (x y : Int64) : u64 (x * y) = (u64 x * u64 y) % 18446744073709551616 := by show (x * y).toBitVec.toNat = _; rw [Int64.toBitVec_mul, BitVec.toNat_mul]; rfl
theorem and31 (n : Nat) : n &&& 31 = n % 32 := Nat.and_two_pow_sub_one_eq_mod n 5
theorem and63 (n : Nat) : n &&& 63 = n % 64 := Nat.and_two_pow_sub_one_eq_mod n 6
theorem u32_ushr (x y : Int32) : u32 (jushr x y) = u32 x / 2 ^ (u32 y % 32) := by
  show (x.toBitVec >>> ((y &&& 31).toBitVec % 32#32)).toNat = _
  rw [BitVec.ushiftRight_eq', BitVec.toNat_ushiftRight, Nat.shiftRight_eq_div_pow, BitVec.toNat_umod]
  have e : (y &&& 31).toBitVec.toNat = u32 y % 32 := (u32_and y 31).trans (and31 _)
  rw [e]
  show u32 x / 2 ^ (u32 y % 32 % 32) = _
  rw [Nat.mod_mod]
theorem u32_shl (x y : Int32) : u32 (jshl x y) = (u32 x * 2 ^ (u32 y % 32)) % 4294967296 := by
  show (x.toBitVec <<< ((y &&& 31).toBitVec.smod 32#32)).toNat = _
  have e := sm32 y (u32 y % 32) rfl
  rw [BitVec.shiftLeft_eq', BitVec.toNat_shiftLeft, Nat.shiftLeft_eq]
  have e' : ((y &&& 31).toBitVec.smod 32#32).toNat = u32 y % 32 := e
  rw [e']; rfl
theorem u64_ushr (x : Int64) (y : Int32) : u64 (jushrL x y) = u64 x / 2 ^ (u32 y % 64) := by
  obtain ⟨e, h⟩ := sm64 y (u32 y % 64) rfl
  show (x.toBitVec >>> ((y &&& 0x3f).toInt64.toBitVec % 64#64)).toNat = _
  rw [e, BitVec.ushiftRight_eq', BitVec.toNat_ushiftRight, Nat.shiftRight_eq_div_pow, BitVec.toNat_umod, BitVec.toNat_ofNat]
  show u64 x / 2 ^ (u32 y % 64 % 18446744073709551616 % 64) = _
  congr 2
  omega
theorem u64_shl (x : Int64) (y : Int32) : u64 (jshlL x y) = (u64 x * 2 ^ (u32 y % 64)) % 18446744073709551616 := by
  obtain ⟨e, h⟩ := sm64 y (u32 y % 64) rfl
  show (x.toBitVec <<< ((y &&& 0x3f).toInt64.toBitVec.smod 64#64)).toNat = _
  rw [e, BitVec.shiftLeft_eq', BitVec.toNat_shiftLeft, Nat.shiftLeft_eq]
  have e' := smod64 (u32 y % 64) h
  have e'' : ((BitVec.ofNat 64 (u32 y % 64)).smod 64#64).toNat = u32 y % 64 := e'
  rw [e'']; rfl
theorem u32_l2i (x : Int64) : u32 x.toInt32 = u64 x % 4294967296 := by
  show x.toInt32.toBitVec.toNat = _
  rw [Int64.toBitVec_toInt32, BitVec.signExtend_eq_setWidth_of_le _ (by decide), BitVec.toNat_setWidth]; rfl
theorem u64_i2l (x : Int32) : u64 x.toInt64 = if 2 * u32 x < 4294967296 then u32 x else u32 x + 18446744069414584320 := by
  have h := c_i2l x
  rw [u64_toInt, u32_toInt] at h
  have := u32_lt x; have := u64_lt x.toInt64
  split <;> split at h <;> omega
theorem i32_of {x : Int32} {n : Nat} (h : u32 x = n) : x = Int32.ofNat n := by
  apply u32_inj; rw [h]
  show n = (BitVec.ofNat 32 n).toNat
  rw [BitVec.toNat_ofNat, Nat.mod_eq_of_lt]; have := u32_lt x; omega
theorem i64_of {x : Int64} {n : Nat} (h : u64 x = n) : x = Int64.ofNat n := by
  apply u64_inj; rw [h]
  show n = (BitVec.ofNat 64 n).toNat
  rw [BitVec.toNat_ofNat, Nat.mod_eq_of_lt]; have := u64_lt x; omega
theorem u32_of (n : Nat) (h : n < 4294967296) : u32 (Int32.ofNat n) = n := by
  show (BitVec.ofNat 32 n).toNat = n
  rw [BitVec.toNat_ofNat, Nat.mod_eq_of_lt]; omega
theorem u64_of (n : Nat) (h : n < 18446744073709551616) : u64 (Int64.ofNat n) = n := by
  show (BitVec.ofNat 64 n).toNat = n
  rw [BitVec.toNat_ofNat, Nat.mod_eq_of_lt]; omega
theorem toInt_of {n : Nat} (h : n < 2147483648) : (Int32.ofNat n).toInt = n := Int32.toInt_ofNat_of_lt (by omega)
theorem tnc_of {n : Nat} (h : n < 2147483648) : (Int32.ofNat n).toNatClampNeg = n := by show (Int32.ofNat n).toInt.toNat = n; rw [toInt_of h]; rfl
theorem nneg_of {n : Nat} (h : n < 2147483648) : ¬ Int32.ofNat n < 0 := by rw [Int32.lt_iff_toInt_lt, toInt_of h]; show ¬ (n : Int) < 0; omega
theorem jcmp_lt (x y : Int64) : jcmp x y < 0 ↔ x < y := lw_lt x y
theorem jcmp_gt (x y : Int64) : 0 < jcmp x y ↔ y < x := lw_gt x y
theorem jcmp_eq (x y : Int64) : jcmp x y = 0 ↔ x = y := lw_eq x y
/-- a mask of the bits from k on -/
theorem nat_hi (n k w : Nat) (h : n < 2 ^ w) (hk : k ≤ w) : n &&& (2 ^ w - 2 ^ k) = n / 2 ^ k * 2 ^ k := by
  apply Nat.eq_of_testBit_eq
  intro i
  have e : 2 ^ w - 2 ^ k = (2 ^ (w - k) - 1) <<< k := by
    rw [Nat.shiftLeft_eq, Nat.sub_mul, Nat.one_mul, ← Nat.pow_add, Nat.sub_add_cancel hk]
  rw [e, ← Nat.shiftRight_eq_div_pow, ← Nat.shiftLeft_eq, Nat.testBit_and, Nat.testBit_shiftLeft, Nat.testBit_shiftLeft, Nat.testBit_two_pow_sub_one, Nat.testBit_shiftRight]
  by_cases q : k ≤ i
  · simp only [q, decide_true, Bool.true_and]
    have e2 : k + (i - k) = i := by omega
    rw [e2]
    by_cases r : i < w
    · have : decide (i - k < w - k) = true := by simp; omega
      rw [this, Bool.and_true]
    · have : n.testBit i = false := Nat.testBit_lt_two_pow (Nat.lt_of_lt_of_le h (Nat.pow_le_pow_right (by decide) (by omega)))
      rw [this]; simp
  · simp [q]

theorem d1_0 : decode prog_104_method_1_code 0 = .ok (.aload_n 0, 1) := by decide +kernel
theorem d1_1 : decode prog_104_method_1_code 1 = .ok (.invokespecial 1, 3) := by decide +kernel
theorem d1_4 : decode prog_104_method_1_code 4 = .ok (.aload_n 0, 1) := by decide +kernel
theorem d1_5 : decode prog_104_method_1_code 5 = .ok (.iload_n 1, 1) := by decide +kernel
theorem d1_6 : decode prog_104_method_1_code 6 = .ok (.invokestatic 7, 3) := by decide +kernel
theorem d1_9 : decode prog_104_method_1_code 9 = .ok (.newarray .int, 2) := by decide +kernel
theorem d1_11 : decode prog_104_method_1_code 11 = .ok (.putfield 13, 3) := by decide +kernel
theorem d1_14 : decode prog_104_method_1_code 14 = .ok (.aload_n 0, 1) := by decide +kernel
theorem d1_15 : decode prog_104_method_1_code 15 = .ok (.aload_n 0, 1) := by decide +kernel
theorem d1_16 : decode prog_104_method_1_code 16 = .ok (.getfield 13, 3) := by decide +kernel
theorem d1_19 : decode prog_104_method_1_code 19 = .ok (.arraylength, 1) := by decide +kernel
theorem d1_20 : decode prog_104_method_1_code 20 = .ok (.newarray .int, 2) := by decide +kernel
theorem d1_22 : decode prog_104_method_1_code 22 = .ok (.putfield 16, 3) := by decide +kernel
theorem d1_25 : decode prog_104_method_1_code 25 = .ok (.return_, 1) := by decide +kernel
theorem d3_0 : decode prog_104_method_2_code 0 = .ok (.iload_n 0, 1) := by decide +kernel
theorem d3_1 : decode prog_104_method_2_code 1 = .ok (.bipush 64, 2) := by decide +kernel
theorem d3_3 : decode prog_104_method_2_code 3 = .ok (.iadd, 1) := by decide +kernel
theorem d3_4 : decode prog_104_method_2_code 4 = .ok (.iconst 1, 1) := by decide +kernel
theorem d3_5 : decode prog_104_method_2_code 5 = .ok (.isub, 1) := by decide +kernel
theorem d3_6 : decode prog_104_method_2_code 6 = .ok (.bipush 64, 2) := by decide +kernel
theorem d3_8 : decode prog_104_method_2_code 8 = .ok (.idiv, 1) := by decide +kernel
theorem d3_9 : decode prog_104_method_2_code 9 = .ok (.ireturn, 1) := by decide +kernel
theorem d4_0 : decode prog_104_method_4_code 0 = .ok (.aload_n 0, 1) := by decide +kernel
theorem d4_1 : decode prog_104_method_4_code 1 = .ok (.iconst 0, 1) := by decide +kernel
theorem d4_2 : decode prog_104_method_4_code 2 = .ok (.putfield 21, 3) := by decide +kernel
theorem d4_5 : decode prog_104_method_4_code 5 = .ok (.aload_n 0, 1) := by decide +kernel
theorem d4_6 : decode prog_104_method_4_code 6 = .ok (.ldc 41, 2) := by decide +kernel
theorem d4_8 : decode prog_104_method_4_code 8 = .ok (.putfield 29, 3) := by decide +kernel
theorem d4_11 : decode prog_104_method_4_code 11 = .ok (.aload_n 0, 1) := by decide +kernel
theorem d4_12 : decode prog_104_method_4_code 12 = .ok (.iconst 0, 1) := by decide +kernel
theorem d4_13 : decode prog_104_method_4_code 13 = .ok (.putfield 32, 3) := by decide +kernel
theorem d4_16 : decode prog_104_method_4_code 16 = .ok (.return_, 1) := by decide +kernel
theorem d5_0 : decode prog_104_method_5_code 0 = .ok (.iload_n 1, 1) := by decide +kernel
theorem d5_1 : decode prog_104_method_5_code 1 = .ok (.bipush 6, 2) := by decide +kernel
theorem d5_3 : decode prog_104_method_5_code 3 = .ok (.iushr, 1) := by decide +kernel
theorem d5_4 : decode prog_104_method_5_code 4 = .ok (.istore_n 2, 1) := by decide +kernel
theorem d5_5 : decode prog_104_method_5_code 5 = .ok (.aload_n 0, 1) := by decide +kernel
theorem d5_6 : decode prog_104_method_5_code 6 = .ok (.iload_n 2, 1) := by decide +kernel
theorem d5_7 : decode prog_104_method_5_code 7 = .ok (.invokevirtual 42, 3) := by decide +kernel
theorem d5_10 : decode prog_104_method_5_code 10 = .ok (.ifCond .ne 51, 3) := by decide +kernel
theorem d5_13 : decode prog_104_method_5_code 13 = .ok (.aload_n 0, 1) := by decide +kernel
theorem d5_14 : decode prog_104_method_5_code 14 = .ok (.iload_n 2, 1) := by decide +kernel
theorem d5_15 : decode prog_104_method_5_code 15 = .ok (.aload_n 0, 1) := by decide +kernel
theorem d5_16 : decode prog_104_method_5_code 16 = .ok (.dup, 1) := by decide +kernel
theorem d5_17 : decode prog_104_method_5_code 17 = .ok (.getfield 21, 3) := by decide +kernel
theorem d5_20 : decode prog_104_method_5_code 20 = .ok (.dup_x1, 1) := by decide +kernel
theorem d5_21 : decode prog_104_method_5_code 21 = .ok (.iconst 1, 1) := by decide +kernel
theorem d5_22 : decode prog_104_method_5_code 22 = .ok (.iadd, 1) := by decide +kernel
theorem d5_23 : decode prog_104_method_5_code 23 = .ok (.putfield 21, 3) := by decide +kernel
theorem d5_26 : decode prog_104_method_5_code 26 = .ok (.invokevirtual 25, 3) := by decide +kernel
theorem d5_29 : decode prog_104_method_5_code 29 = .ok (.iload_n 2, 1) := by decide +kernel
theorem d5_30 : decode prog_104_method_5_code 30 = .ok (.aload_n 0, 1) := by decide +kernel
theorem d5_31 : decode prog_104_method_5_code 31 = .ok (.getfield 13, 3) := by decide +kernel
theorem d5_34 : decode prog_104_method_5_code 34 = .ok (.iconst 0, 1) := by decide +kernel
theorem d5_35 : decode prog_104_method_5_code 35 = .ok (.iaload, 1) := by decide +kernel
theorem d5_36 : decode prog_104_method_5_code 36 = .ok (.if_icmp .ge 25, 3) := by decide +kernel
theorem d5_39 : decode prog_104_method_5_code 39 = .ok (.aload_n 0, 1) := by decide +kernel
theorem d5_40 : decode prog_104_method_5_code 40 = .ok (.aload_n 0, 1) := by decide +kernel
theorem d5_41 : decode prog_104_method_5_code 41 = .ok (.getfield 13, 3) := by decide +kernel
theorem d5_44 : decode prog_104_method_5_code 44 = .ok (.iconst 0, 1) := by decide +kernel
theorem d5_45 : decode prog_104_method_5_code 45 = .ok (.iaload, 1) := by decide +kernel
theorem d5_46 : decode prog_104_method_5_code 46 = .ok (.aload_n 0, 1) := by decide +kernel
theorem d5_47 : decode prog_104_method_5_code 47 = .ok (.getfield 21, 3) := by decide +kernel
theorem d5_50 : decode prog_104_method_5_code 50 = .ok (.iconst 1, 1) := by decide +kernel
theorem d5_51 : decode prog_104_method_5_code 51 = .ok (.isub, 1) := by decide +kernel
theorem d5_52 : decode prog_104_method_5_code 52 = .ok (.invokevirtual 25, 3) := by decide +kernel
theorem d5_55 : decode prog_104_method_5_code 55 = .ok (.aload_n 0, 1) := by decide +kernel
theorem d5_56 : decode prog_104_method_5_code 56 = .ok (.iload_n 2, 1) := by decide +kernel
theorem d5_57 : decode prog_104_method_5_code 57 = .ok (.iconst 0, 1) := by decide +kernel
theorem d5_58 : decode prog_104_method_5_code 58 = .ok (.invokevirtual 25, 3) := by decide +kernel
theorem d5_61 : decode prog_104_method_5_code 61 = .ok (.aload_n 0, 1) := by decide +kernel
theorem d5_62 : decode prog_104_method_5_code 62 = .ok (.aload_n 0, 1) := by decide +kernel
theorem d5_63 : decode prog_104_method_5_code 63 = .ok (.getfield 29, 3) := by decide +kernel
theorem d5_66 : decode prog_104_method_5_code 66 = .ok (.iload_n 1, 1) := by decide +kernel
theorem d5_67 : decode prog_104_method_5_code 67 = .ok (.invokestatic 46, 3) := by decide +kernel
theorem d5_70 : decode prog_104_method_5_code 70 = .ok (.putfield 29, 3) := by decide +kernel
theorem d5_73 : decode prog_104_method_5_code 73 = .ok (.aload_n 0, 1) := by decide +kernel
theorem d5_74 : decode prog_104_method_5_code 74 = .ok (.aload_n 0, 1) := by decide +kernel
theorem d5_75 : decode prog_104_method_5_code 75 = .ok (.getfield 32, 3) := by decide +kernel
theorem d5_78 : decode prog_104_method_5_code 78 = .ok (.iload_n 1, 1) := by decide +kernel
theorem d5_79 : decode prog_104_method_5_code 79 = .ok (.iconst 1, 1) := by decide +kernel
theorem d5_80 : decode prog_104_method_5_code 80 = .ok (.iadd, 1) := by decide +kernel
theorem d5_81 : decode prog_104_method_5_code 81 = .ok (.invokestatic 52, 3) := by decide +kernel
theorem d5_84 : decode prog_104_method_5_code 84 = .ok (.putfield 32, 3) := by decide +kernel
theorem d5_87 : decode prog_104_method_5_code 87 = .ok (.aload_n 0, 1) := by decide +kernel
theorem d5_88 : decode prog_104_method_5_code 88 = .ok (.aload_n 0, 1) := by decide +kernel
theorem d5_89 : decode prog_104_method_5_code 89 = .ok (.getfield 32, 3) := by decide +kernel
theorem d5_92 : decode prog_104_method_5_code 92 = .ok (.iconst 1, 1) := by decide +kernel
theorem d5_93 : decode prog_104_method_5_code 93 = .ok (.isub, 1) := by decide +kernel
theorem d5_94 : decode prog_104_method_5_code 94 = .ok (.bipush 6, 2) := by decide +kernel
theorem d5_96 : decode prog_104_method_5_code 96 = .ok (.iushr, 1) := by decide +kernel
theorem d5_97 : decode prog_104_method_5_code 97 = .ok (.aload_n 0, 1) := by decide +kernel
theorem d5_98 : decode prog_104_method_5_code 98 = .ok (.getfield 29, 3) := by decide +kernel
theorem d5_101 : decode prog_104_method_5_code 101 = .ok (.bipush 6, 2) := by decide +kernel
theorem d5_103 : decode prog_104_method_5_code 103 = .ok (.iushr, 1) := by decide +kernel
theorem d5_104 : decode prog_104_method_5_code 104 = .ok (.isub, 1) := by decide +kernel
theorem d5_105 : decode prog_104_method_5_code 105 = .ok (.aload_n 0, 1) := by decide +kernel
theorem d5_106 : decode prog_104_method_5_code 106 = .ok (.getfield 21, 3) := by decide +kernel
theorem d5_109 : decode prog_104_method_5_code 109 = .ok (.iconst 1, 1) := by decide +kernel
theorem d5_110 : decode prog_104_method_5_code 110 = .ok (.isub, 1) := by decide +kernel
theorem d5_111 : decode prog_104_method_5_code 111 = .ok (.if_icmp .ne 7, 3) := by decide +kernel
theorem d5_114 : decode prog_104_method_5_code 114 = .ok (.iconst 1, 1) := by decide +kernel
theorem d5_115 : decode prog_104_method_5_code 115 = .ok (.goto 4, 3) := by decide +kernel
theorem d5_118 : decode prog_104_method_5_code 118 = .ok (.iconst 0, 1) := by decide +kernel
theorem d5_119 : decode prog_104_method_5_code 119 = .ok (.putfield 35, 3) := by decide +kernel
theorem d5_122 : decode prog_104_method_5_code 122 = .ok (.return_, 1) := by decide +kernel
theorem d6_0 : decode prog_104_method_12_code 0 = .ok (.aload_n 0, 1) := by decide +kernel
theorem d6_1 : decode prog_104_method_12_code 1 = .ok (.getfield 16, 3) := by decide +kernel
theorem d6_4 : decode prog_104_method_12_code 4 = .ok (.iload_n 1, 1) := by decide +kernel
theorem d6_5 : decode prog_104_method_12_code 5 = .ok (.iaload, 1) := by decide +kernel
theorem d6_6 : decode prog_104_method_12_code 6 = .ok (.istore_n 2, 1) := by decide +kernel
theorem d6_7 : decode prog_104_method_12_code 7 = .ok (.iload_n 2, 1) := by decide +kernel
theorem d6_8 : decode prog_104_method_12_code 8 = .ok (.aload_n 0, 1) := by decide +kernel
theorem d6_9 : decode prog_104_method_12_code 9 = .ok (.getfield 21, 3) := by decide +kernel
theorem d6_12 : decode prog_104_method_12_code 12 = .ok (.if_icmp .ge 17, 3) := by decide +kernel
theorem d6_15 : decode prog_104_method_12_code 15 = .ok (.aload_n 0, 1) := by decide +kernel
theorem d6_16 : decode prog_104_method_12_code 16 = .ok (.getfield 13, 3) := by decide +kernel
theorem d6_19 : decode prog_104_method_12_code 19 = .ok (.iload_n 2, 1) := by decide +kernel
theorem d6_20 : decode prog_104_method_12_code 20 = .ok (.iaload, 1) := by decide +kernel
theorem d6_21 : decode prog_104_method_12_code 21 = .ok (.iload_n 1, 1) := by decide +kernel
theorem d6_22 : decode prog_104_method_12_code 22 = .ok (.if_icmp .ne 7, 3) := by decide +kernel
theorem d6_25 : decode prog_104_method_12_code 25 = .ok (.iconst 1, 1) := by decide +kernel
theorem d6_26 : decode prog_104_method_12_code 26 = .ok (.goto 4, 3) := by decide +kernel
theorem d6_29 : decode prog_104_method_12_code 29 = .ok (.iconst 0, 1) := by decide +kernel
theorem d6_30 : decode prog_104_method_12_code 30 = .ok (.ireturn, 1) := by decide +kernel
theorem d7_0 : decode prog_104_method_6_code 0 = .ok (.aload_n 0, 1) := by decide +kernel
theorem d7_1 : decode prog_104_method_6_code 1 = .ok (.getfield 13, 3) := by decide +kernel
theorem d7_4 : decode prog_104_method_6_code 4 = .ok (.iload_n 2, 1) := by decide +kernel
theorem d7_5 : decode prog_104_method_6_code 5 = .ok (.iload_n 1, 1) := by decide +kernel
theorem d7_6 : decode prog_104_method_6_code 6 = .ok (.iastore, 1) := by decide +kernel
theorem d7_7 : decode prog_104_method_6_code 7 = .ok (.aload_n 0, 1) := by decide +kernel
theorem d7_8 : decode prog_104_method_6_code 8 = .ok (.getfield 16, 3) := by decide +kernel
theorem d7_11 : decode prog_104_method_6_code 11 = .ok (.iload_n 1, 1) := by decide +kernel
theorem d7_12 : decode prog_104_method_6_code 12 = .ok (.iload_n 2, 1) := by decide +kernel
theorem d7_13 : decode prog_104_method_6_code 13 = .ok (.iastore, 1) := by decide +kernel
theorem d7_14 : decode prog_104_method_6_code 14 = .ok (.return_, 1) := by decide +kernel
theorem d8_0 : decode jdk_29_method_69_code 0 = .ok (.iload_n 0, 1) := by decide +kernel
theorem d8_1 : decode jdk_29_method_69_code 1 = .ok (.iload_n 1, 1) := by decide +kernel
theorem d8_2 : decode jdk_29_method_69_code 2 = .ok (.if_icmp .gt 7, 3) := by decide +kernel
theorem d8_5 : decode jdk_29_method_69_code 5 = .ok (.iload_n 0, 1) := by decide +kernel
theorem d8_6 : decode jdk_29_method_69_code 6 = .ok (.goto 4, 3) := by decide +kernel
theorem d8_9 : decode jdk_29_method_69_code 9 = .ok (.iload_n 1, 1) := by decide +kernel
theorem d8_10 : decode jdk_29_method_69_code 10 = .ok (.ireturn, 1) := by decide +kernel
theorem d9_0 : decode jdk_29_method_65_code 0 = .ok (.iload_n 0, 1) := by decide +kernel
theorem d9_1 : decode jdk_29_method_65_code 1 = .ok (.iload_n 1, 1) := by decide +kernel
theorem d9_2 : decode jdk_29_method_65_code 2 = .ok (.if_icmp .lt 7, 3) := by decide +kernel
theorem d9_5 : decode jdk_29_method_65_code 5 = .ok (.iload_n 0, 1) := by decide +kernel
theorem d9_6 : decode jdk_29_method_65_code 6 = .ok (.goto 4, 3) := by decide +kernel
theorem d9_9 : decode jdk_29_method_65_code 9 = .ok (.iload_n 1, 1) := by decide +kernel
theorem d9_10 : decode jdk_29_method_65_code 10 = .ok (.ireturn, 1) := by decide +kernel
theorem d10_0 : decode prog_104_method_7_code 0 = .ok (.aload_n 0, 1) := by decide +kernel
theorem d10_1 : decode prog_104_method_7_code 1 = .ok (.getfield 21, 3) := by decide +kernel
theorem d10_4 : decode prog_104_method_7_code 4 = .ok (.ireturn, 1) := by decide +kernel
theorem d11_0 : decode prog_104_method_8_code 0 = .ok (.aload_n 0, 1) := by decide +kernel
theorem d11_1 : decode prog_104_method_8_code 1 = .ok (.getfield 13, 3) := by decide +kernel
theorem d11_4 : decode prog_104_method_8_code 4 = .ok (.iload_n 1, 1) := by decide +kernel
theorem d11_5 : decode prog_104_method_8_code 5 = .ok (.iaload, 1) := by decide +kernel
theorem d11_6 : decode prog_104_method_8_code 6 = .ok (.ireturn, 1) := by decide +kernel
theorem d12_0 : decode prog_104_method_17_code 0 = .ok (.iload_n 1, 1) := by decide +kernel
theorem d12_1 : decode prog_104_method_17_code 1 = .ok (.aload_n 0, 1) := by decide +kernel
theorem d12_2 : decode prog_104_method_17_code 2 = .ok (.getfield 29, 3) := by decide +kernel
theorem d12_5 : decode prog_104_method_17_code 5 = .ok (.bipush 63, 2) := by decide +kernel
theorem d12_7 : decode prog_104_method_17_code 7 = .ok (.iand, 1) := by decide +kernel
theorem d12_8 : decode prog_104_method_17_code 8 = .ok (.iadd, 1) := by decide +kernel
theorem d12_9 : decode prog_104_method_17_code 9 = .ok (.istore_n 2, 1) := by decide +kernel
theorem d12_10 : decode prog_104_method_17_code 10 = .ok (.aload_n 0, 1) := by decide +kernel
theorem d12_11 : decode prog_104_method_17_code 11 = .ok (.getfield 13, 3) := by decide +kernel
theorem d12_14 : decode prog_104_method_17_code 14 = .ok (.iload_n 2, 1) := by decide +kernel
theorem d12_15 : decode prog_104_method_17_code 15 = .ok (.bipush 6, 2) := by decide +kernel
theorem d12_17 : decode prog_104_method_17_code 17 = .ok (.iushr, 1) := by decide +kernel
theorem d12_18 : decode prog_104_method_17_code 18 = .ok (.iaload, 1) := by decide +kernel
theorem d12_19 : decode prog_104_method_17_code 19 = .ok (.bipush 6, 2) := by decide +kernel
theorem d12_21 : decode prog_104_method_17_code 21 = .ok (.ishl, 1) := by decide +kernel
theorem d12_22 : decode prog_104_method_17_code 22 = .ok (.iload_n 2, 1) := by decide +kernel
theorem d12_23 : decode prog_104_method_17_code 23 = .ok (.bipush 63, 2) := by decide +kernel
theorem d12_25 : decode prog_104_method_17_code 25 = .ok (.iand, 1) := by decide +kernel
theorem d12_26 : decode prog_104_method_17_code 26 = .ok (.ior, 1) := by decide +kernel
theorem d12_27 : decode prog_104_method_17_code 27 = .ok (.ireturn, 1) := by decide +kernel
theorem pn0 : plainFor (⟨"com/example/honeyguide/honeyguide/service/RegionPositionPinLaw", "law", "(IIIII)Z"⟩ : MethodName) = true := plainFor_of_name (by first | (simp [plainName, overriddenIn]; done) | decide +kernel)
theorem pn1 : plainFor (⟨"com/example/honeyguide/honeyguide/service/Region", "<init>", "(I)V"⟩ : MethodName) = true := plainFor_of_name (by first | (simp [plainName, overriddenIn]; done) | decide +kernel)
theorem pd1 : parseMethodDescriptor "(I)V" = some ⟨[.int], none⟩ := by decide +kernel
theorem pn3 : plainFor (⟨"com/example/honeyguide/honeyguide/service/Region", "words", "(I)I"⟩ : MethodName) = true := plainFor_of_name (by first | (simp [plainName, overriddenIn]; done) | decide +kernel)
theorem pd3 : parseMethodDescriptor "(I)I" = some ⟨[.int], some .int⟩ := by decide +kernel
theorem pn4 : plainFor (⟨"com/example/honeyguide/honeyguide/service/Region", "clear", "()V"⟩ : MethodName) = true := plainFor_of_name (by first | (simp [plainName, overriddenIn]; done) | decide +kernel)
theorem pd4 : parseMethodDescriptor "()V" = some ⟨[], none⟩ := by decide +kernel
theorem pn5 : plainFor (⟨"com/example/honeyguide/honeyguide/service/Region", "add", "(I)V"⟩ : MethodName) = true := plainFor_of_name (by first | (simp [plainName, overriddenIn]; done) | decide +kernel)
theorem pd5 : parseMethodDescriptor "(I)V" = some ⟨[.int], none⟩ := by decide +kernel
theorem pn6 : plainFor (⟨"com/example/honeyguide/honeyguide/service/Region", "holdsWord", "(I)Z"⟩ : MethodName) = true := plainFor_of_name (by first | (simp [plainName, overriddenIn]; done) | decide +kernel)
theorem pd6 : parseMethodDescriptor "(I)Z" = some ⟨[.int], some .boolean⟩ := by decide +kernel
theorem pn7 : plainFor (⟨"com/example/honeyguide/honeyguide/service/Region", "putWord", "(II)V"⟩ : MethodName) = true := plainFor_of_name (by first | (simp [plainName, overriddenIn]; done) | decide +kernel)
theorem pd7 : parseMethodDescriptor "(II)V" = some ⟨[.int, .int], none⟩ := by decide +kernel
theorem pn8 : plainFor (⟨"java/lang/Math", "min", "(II)I"⟩ : MethodName) = true := Jvm.Free.JP.mathPlain rfl (by decide +kernel)
theorem pd8 : parseMethodDescriptor "(II)I" = some ⟨[.int, .int], some .int⟩ := by decide +kernel
theorem pn9 : plainFor (⟨"java/lang/Math", "max", "(II)I"⟩ : MethodName) = true := Jvm.Free.JP.mathPlain rfl (by decide +kernel)
theorem pd9 : parseMethodDescriptor "(II)I" = some ⟨[.int, .int], some .int⟩ := by decide +kernel
theorem pn10 : plainFor (⟨"com/example/honeyguide/honeyguide/service/Region", "wordCount", "()I"⟩ : MethodName) = true := plainFor_of_name (by first | (simp [plainName, overriddenIn]; done) | decide +kernel)
theorem pd10 : parseMethodDescriptor "()I" = some ⟨[], some .int⟩ := by decide +kernel
theorem pn11 : plainFor (⟨"com/example/honeyguide/honeyguide/service/Region", "word", "(I)I"⟩ : MethodName) = true := plainFor_of_name (by first | (simp [plainName, overriddenIn]; done) | decide +kernel)
theorem pd11 : parseMethodDescriptor "(I)I" = some ⟨[.int], some .int⟩ := by decide +kernel
theorem pn12 : plainFor (⟨"com/example/honeyguide/honeyguide/service/Region", "position", "(I)I"⟩ : MethodName) = true := plainFor_of_name (by first | (simp [plainName, overriddenIn]; done) | decide +kernel)
theorem pd12 : parseMethodDescriptor "(I)I" = some ⟨[.int], some .int⟩ := by decide +kernel
def CK : oK
  | 0 => ("com/example/honeyguide/honeyguide/service/Region", [("com/example/honeyguide/honeyguide/service/Region", "words", "[I"), ("com/example/honeyguide/honeyguide/service/Region", "indexOf", "[I"), ("com/example/honeyguide/honeyguide/service/Region", "count", "I"), ("com/example/honeyguide/honeyguide/service/Region", "first", "I"), ("com/example/honeyguide/honeyguide/service/Region", "end", "I"), ("com/example/honeyguide/honeyguide/service/Region", "gapless", "Z")])
  | _ => ("", [])
theorem kok0 {Z : State} {a0 : Array Value} (hw : ∀ d ∈ tables_1, d.before a0 Z = true) : oKOk Z a0 CK 0 := ⟨⟨⟨Or.inr (hw _ (List.mem_of_getElem? (i := 14) rfl)), (.array .int), by decide⟩, ⟨⟨Or.inr (hw _ (List.mem_of_getElem? (i := 16) rfl)), (.array .int), by decide⟩, ⟨⟨Or.inl (hw _ (List.mem_of_getElem? (i := 23) rfl)), .int, by decide⟩, ⟨⟨Or.inl (hw _ (List.mem_of_getElem? (i := 26) rfl)), .int, by decide⟩, ⟨⟨Or.inl (hw _ (List.mem_of_getElem? (i := 28) rfl)), .int, by decide⟩, ⟨⟨Or.inl (hw _ (List.mem_of_getElem? (i := 50) rfl)), .boolean, by decide⟩, trivial⟩⟩⟩⟩⟩⟩, oDistinct.of (by decide)⟩
theorem of_add (i j : Nat) : Int32.ofNat i + Int32.ofNat j = Int32.ofNat (i + j) := (Int32.ofNat_add i j).symm
theorem of_sub1 {i : Nat} (h : 0 < i) (h2 : i < 2147483648) : Int32.ofNat i - 1 = Int32.ofNat (i - 1) := by
  apply Int32.toInt_inj.mp
  have h3 := c_isub (Int32.ofNat i) 1
  have h4 := rng32 (Int32.ofNat i - 1)
  have e : (1 : Int32).toInt = 1 := rfl
  rw [toInt_of h2, e] at h3
  rw [toInt_of (show i - 1 < 2147483648 by omega)]; omega
theorem of_ushr6 {i : Nat} (h : i < 4294967296) : jushr (Int32.ofNat i) 6 = Int32.ofNat (i / 64) := i32_of (by rw [u32_ushr, u32_of i h]; rfl)
theorem lt_of {i j : Nat} (hi : i < 2147483648) (hj : j < 2147483648) : Int32.ofNat i < Int32.ofNat j ↔ i < j := by rw [Int32.lt_iff_toInt_lt, toInt_of hi, toInt_of hj]; omega
theorem eq_of {i j : Nat} (hi : i < 2147483648) (hj : j < 2147483648) : Int32.ofNat i = Int32.ofNat j ↔ i = j := by rw [← Int32.toInt_inj, toInt_of hi, toInt_of hj]; omega
theorem one_up (i : Nat) : Int32.ofNat i + Int32.ofInt 1 = Int32.ofNat (i + 1) := (Int32.ofNat_add i 1).symm

theorem mwords {l : Launch} {Z : State} {a0 : Array Value} (hw : ∀ d ∈ tables_1, d.before a0 Z = true) {ρ : oM} {A : oH} (x : Int32) : Met l Z CK ρ (⟨"com/example/honeyguide/honeyguide/service/Region", "words", "(I)I"⟩ : MethodName) prog_104_method_2_code 1 (some .int) ({ frames := 0, cells := 0, slots := 0, locals := 0 } : Room) [] [.int x] A (some (.int ((x + 64 - 1) / 64))) A := by
  refine Met.of (L0 := [.val (.int x)]) pn3 (oentry rfl) rfl ?_
  refine Ends.st (b := (1, _, _, _, 0, 0)) (s_iloadN d3_0 rfl) ?_
  refine Ends.st (b := (3, _, _, _, 0, 0)) (s_bipush (z := 64) d3_1 (by decide)) ?_
  refine Ends.st (b := (4, _, _, _, 0, 0)) (s_iadd d3_3) ?_
  refine Ends.st (b := (5, _, _, _, 0, 0)) (s_iconst (z := 1) d3_4 rfl) ?_
  refine Ends.st (b := (6, _, _, _, 0, 0)) (s_isub d3_5) ?_
  refine Ends.st (b := (8, _, _, _, 0, 0)) (s_bipush (z := 64) d3_6 (by decide)) ?_
  refine Ends.st (b := (9, _, _, _, 0, 0)) (s_idiv d3_8 (by decide)) ?_
  exact e_ireturn d3_9 rfl (by decide) (by decide)
theorem minit {l : Launch} {Z : State} {a0 : Array Value} (hw : ∀ d ∈ tables_1, d.before a0 Z = true) {ρ : oM} (x : Int32) (q : Nat) (hq : (x + 64 - 1) / 64 = Int32.ofNat q) (hc : q ≤ 8) : Met l Z CK ρ (⟨"com/example/honeyguide/honeyguide/service/Region", "<init>", "(I)V"⟩ : MethodName) prog_104_method_1_code 2 none ({ frames := 1, cells := 2, slots := 16, locals := 13 } : Room) [] [.ref 0, .int x] [.inl (0, [.null, .null, .int 0, .int 0, .int 0, .int 0])] none [.inl (0, [.ref 1, .ref 2, .int 0, .int 0, .int 0, .int 0]), .inr (.int, List.replicate q (.int 0)), .inr (.int, List.replicate q (.int 0))] := by
  refine Met.of (L0 := [.val (.ref 0), .val (.int x)]) pn1 (oentry rfl) rfl ?_
  refine Ends.st (b := (1, _, _, _, 0, 0)) (s_aloadN d1_0 rfl rfl) ?_
  refine Ends.st (b := (4, _, _, _, 0, 0)) (s_initO (W := 0) (hw _ (List.mem_of_getElem? (i := 6) rfl)) (hw _ (List.mem_of_getElem? (i := 7) rfl)) (hw _ (List.mem_of_getElem? (i := 8) rfl)) d1_1 (by decide) rfl (by decide)) ?_
  refine Ends.st (b := (5, _, _, _, 0, 0)) (s_aloadN d1_4 rfl rfl) ?_
  refine Ends.st (b := (6, _, _, _, 0, 0)) (s_iloadN d1_5 rfl) ?_
  refine Ends.st (b := (9, _, [_, _], _, 0, 0)) (s_callS (W := 1) (hw _ (List.mem_of_getElem? (i := 9) rfl)) (hw _ (List.mem_of_getElem? (i := 10) rfl)) (hw _ (List.mem_of_getElem? (i := 2) rfl)) (hw _ (List.mem_of_getElem? (i := 11) rfl)) (by decide) (lenOf pd3 rfl) d1_6 (mwords hw _) rfl rfl (by decide) (by decide) (by decide) (by decide)) ?_
  rw [hq]
  refine Ends.st (b := (11, _, _, [.inl (_, [_, _, _, _, _, _]), _], 1, 8)) (s_newarray (j := 1) (q := q) (cap := 8) (hw _ (List.mem_of_getElem? (i := 12) rfl)) d1_9 rfl (nneg_of (by omega)) (tnc_of (by omega)) hc (by decide) (by decide) (by decide) rfl) ?_
  refine Ends.st (b := (14, _, _, [.inl (_, [_, _, _, _, _, _]), _], 1, 8)) (s_putfield (cid := 0) (i := 0) (hw _ (List.mem_of_getElem? (i := 13) rfl)) (kok0 hw) rfl (Or.inr ⟨(hw _ (List.mem_of_getElem? (i := 14) rfl)), rfl, rfl⟩) (hw _ (List.mem_of_getElem? (i := 1) rfl)) (ty := (.array .int)) (by decide) rfl rfl d1_11 rfl rfl rfl) ?_
  refine Ends.st (b := (15, _, _, _, 1, 8)) (s_aloadN d1_14 rfl rfl) ?_
  refine Ends.st (b := (16, _, _, _, 1, 8)) (s_aloadN d1_15 rfl rfl) ?_
  refine Ends.st (b := (19, _, _, _, 1, 8)) (s_getfield (cid := 0) (i := 0) (hw _ (List.mem_of_getElem? (i := 13) rfl)) rfl d1_16 rfl rfl) ?_
  refine Ends.st (b := (20, _, _, _, 1, 8)) (s_arraylength d1_19 rfl) ?_
  rw [List.length_replicate]
  refine Ends.st (b := (22, _, _, [.inl (_, [_, _, _, _, _, _]), _, _], 2, 16)) (s_newarray (j := 2) (q := q) (cap := 8) (hw _ (List.mem_of_getElem? (i := 12) rfl)) d1_20 rfl (nneg_of (by omega)) (tnc_of (by omega)) hc (by decide) (by decide) (by decide) rfl) ?_
  refine Ends.st (b := (25, _, _, [.inl (_, [_, _, _, _, _, _]), _, _], 2, 16)) (s_putfield (cid := 0) (i := 1) (hw _ (List.mem_of_getElem? (i := 15) rfl)) (kok0 hw) rfl (Or.inr ⟨(hw _ (List.mem_of_getElem? (i := 16) rfl)), rfl, rfl⟩) (hw _ (List.mem_of_getElem? (i := 1) rfl)) (ty := (.array .int)) (by decide) rfl rfl d1_22 rfl rfl rfl) ?_
  exact e_return d1_25 rfl (by decide) (by decide)
theorem mput {l : Launch} {Z : State} {a0 : Array Value} (hw : ∀ d ∈ tables_1, d.before a0 Z = true) {ρ : oM} {v2 v3 v4 v5 : Value} {ws is : List Value} (w i : Nat) (hw1 : w < 1000) (hi1 : i < 1000) (hi : i < ws.length) (hwl : w < is.length) : Met l Z CK ρ (⟨"com/example/honeyguide/honeyguide/service/Region", "putWord", "(II)V"⟩ : MethodName) prog_104_method_6_code 3 none ({ frames := 0, cells := 0, slots := 0, locals := 0 } : Room) [] [.ref 0, .int (Int32.ofNat w), .int (Int32.ofNat i)] [.inl (0, [.ref 1, .ref 2, v2, v3, v4, v5]), .inr (.int, ws), .inr (.int, is)] none [.inl (0, [.ref 1, .ref 2, v2, v3, v4, v5]), .inr (.int, ws.set i (.int (Int32.ofNat w))), .inr (.int, is.set w (.int (Int32.ofNat i)))] := by
  refine Met.of (L0 := [.val (.ref 0), .val (.int (Int32.ofNat w)), .val (.int (Int32.ofNat i))]) pn7 (oentry rfl) rfl ?_
  refine Ends.st (b := (1, _, _, _, 0, 0)) (s_aloadN d7_0 rfl rfl) ?_
  refine Ends.st (b := (4, _, _, _, 0, 0)) (s_getfield (cid := 0) (i := 0) (hw _ (List.mem_of_getElem? (i := 13) rfl)) rfl d7_1 rfl rfl) ?_
  refine Ends.st (b := (5, _, _, _, 0, 0)) (s_iloadN d7_4 rfl) ?_
  refine Ends.st (b := (6, _, _, _, 0, 0)) (s_iloadN d7_5 rfl) ?_
  refine Ends.st (b := (7, _, _, [_, .inr (_, ws.set i _), _], 0, 0)) (s_iastore d7_6 rfl (nneg_of (by omega)) (by rw [tnc_of (by omega)]; exact hi) (by rw [tnc_of (by omega)]; rfl)) ?_
  refine Ends.st (b := (8, _, _, _, 0, 0)) (s_aloadN d7_7 rfl rfl) ?_
  refine Ends.st (b := (11, _, _, _, 0, 0)) (s_getfield (cid := 0) (i := 1) (hw _ (List.mem_of_getElem? (i := 15) rfl)) rfl d7_8 rfl rfl) ?_
  refine Ends.st (b := (12, _, _, _, 0, 0)) (s_iloadN d7_11 rfl) ?_
  refine Ends.st (b := (13, _, _, _, 0, 0)) (s_iloadN d7_12 rfl) ?_
  refine Ends.st (b := (14, _, _, [_, _, .inr (_, is.set w _)], 0, 0)) (s_iastore d7_13 rfl (nneg_of (by omega)) (by rw [tnc_of (by omega)]; exact hwl) (by rw [tnc_of (by omega)]; rfl)) ?_
  exact e_return d7_14 rfl (by decide) (by decide)
/-! the words that a region keeps -/
def Inv (ks : List Nat) (ws is : List Value) (q : Nat) : Prop := ws.length = q ∧ is.length = q ∧ (∀ t x, ks[t]? = some x → x < q ∧ ws[t]? = some (.int (Int32.ofNat x)) ∧ is[x]? = some (.int (Int32.ofNat t))) ∧ ∀ w, w < q → ∃ v, v < 1000 ∧ is[w]? = some (.int (Int32.ofNat v))
theorem Inv.app {ks : List Nat} {ws is : List Value} {q w : Nat} (H : Inv ks ws is q) (hw : w < q) (hn : ks.length < q) (hn9 : ks.length < 1000) (hk : ∀ t : Nat, ks[t]? ≠ some w) : Inv (ks ++ [w]) (ws.set ks.length (.int (Int32.ofNat w))) (is.set w (.int (Int32.ofNat ks.length))) q := by
  obtain ⟨h1, h2, h3, h4⟩ := H
  refine ⟨by rw [List.length_set]; exact h1, by rw [List.length_set]; exact h2, fun t x hx => ?_, fun y hy => ?_⟩
  · rcases Nat.lt_trichotomy t ks.length with z | z | z
    · rw [List.getElem?_append_left z] at hx
      obtain ⟨g1, g2, g3⟩ := h3 t x hx
      have hxw : x ≠ w := fun e => hk t (by rw [hx, e])
      exact ⟨g1, by rw [List.getElem?_set_ne (by omega)]; exact g2, by rw [List.getElem?_set_ne (Ne.symm hxw)]; exact g3⟩
    · subst z
      rw [List.getElem?_append_right (Nat.le_refl _), Nat.sub_self] at hx
      cases hx
      exact ⟨hw, List.getElem?_set_self (by omega), List.getElem?_set_self (by omega)⟩
    · rw [List.getElem?_eq_none (by rw [List.length_append]; simp; omega)] at hx; cases hx
  · by_cases z : y = w
    · subst z; exact ⟨_, hn9, List.getElem?_set_self (by omega)⟩
    · rw [List.getElem?_set_ne (Ne.symm z)]; exact h4 y hy
/-- the swap: the last one, w, comes first, and the first one, k, last -/
theorem Inv.swap {k w : Nat} {t : List Nat} {ws is : List Value} {q : Nat} (H : Inv (k :: t ++ [w]) ws is q) (hne : k ≠ w) (hn9 : t.length < 900) (hd : ∀ j : Nat, t[j]? ≠ some k ∧ t[j]? ≠ some w) :
    Inv (w :: t ++ [k]) ((ws.set (t.length + 1) (.int (Int32.ofNat k))).set 0 (.int (Int32.ofNat w))) ((is.set k (.int (Int32.ofNat (t.length + 1)))).set w (.int (Int32.ofNat 0))) q := by
  obtain ⟨h1, h2, h3, h4⟩ := H
  have a0 := h3 0 k rfl
  have aw := h3 (t.length + 1) w (by simp)
  have lw := (List.getElem?_eq_some_iff.mp aw.2.1).1
  refine ⟨by rw [List.length_set, List.length_set]; exact h1, by rw [List.length_set, List.length_set]; exact h2, fun j x hx => ?_, fun y hy => ?_⟩
  · match j with
    | 0 =>
      cases hx
      exact ⟨aw.1, List.getElem?_set_self (by rw [List.length_set]; omega), List.getElem?_set_self (by rw [List.length_set]; omega)⟩
    | j + 1 =>
      rw [List.cons_append, List.getElem?_cons_succ] at hx
      rcases Nat.lt_trichotomy j t.length with z | z | z
      · rw [List.getElem?_append_left z] at hx
        have g := h3 (j + 1) x (by rw [List.cons_append, List.getElem?_cons_succ, List.getElem?_append_left z]; exact hx)
        have d1 : x ≠ k := fun e => (hd j).1 (by rw [hx, e])
        have d2 : x ≠ w := fun e => (hd j).2 (by rw [hx, e])
        exact ⟨g.1, by rw [List.getElem?_set_ne (by omega), List.getElem?_set_ne (by omega)]; exact g.2.1, by rw [List.getElem?_set_ne (Ne.symm d2), List.getElem?_set_ne (Ne.symm d1)]; exact g.2.2⟩
      · subst z
        rw [List.getElem?_append_right (Nat.le_refl _), Nat.sub_self] at hx
        cases hx
        exact ⟨a0.1, by rw [List.getElem?_set_ne (by omega)]; exact List.getElem?_set_self (by omega), by rw [List.getElem?_set_ne (Ne.symm hne)]; exact List.getElem?_set_self (by omega)⟩
      · rw [List.getElem?_eq_none (by rw [List.length_append]; simp; omega)] at hx; cases hx
  · by_cases z : y = w
    · subst z; exact ⟨0, by decide, List.getElem?_set_self (by rw [List.length_set]; omega)⟩
    · rw [List.getElem?_set_ne (Ne.symm z)]
      by_cases z' : y = k
      · subst z'; exact ⟨_, by omega, List.getElem?_set_self (by omega)⟩
      · rw [List.getElem?_set_ne (Ne.symm z')]; exact h4 y hy
def jmin (x y : Int32) : Int32 := if y < x then y else x
def jmax (x y : Int32) : Int32 := if x < y then y else x

theorem mmin {l : Launch} {Z : State} {a0 : Array Value} (hw : ∀ d ∈ tables_1, d.before a0 Z = true) {ρ : oM} {A : oH} (x y : Int32) : Met l Z CK ρ (⟨"java/lang/Math", "min", "(II)I"⟩ : MethodName) jdk_29_method_69_code 2 (some .int) ({ frames := 0, cells := 0, slots := 0, locals := 0 } : Room) [] [.int x, .int y] A (some (.int (jmin x y))) A := by
  refine Met.of (L0 := [.val (.int x), .val (.int y)]) pn8 (oentry rfl) rfl ?_
  refine Ends.st (b := (1, _, _, _, 0, 0)) (s_iloadN d8_0 rfl) ?_
  refine Ends.st (b := (2, _, _, _, 0, 0)) (s_iloadN d8_1 rfl) ?_
  refine Ends.icmp_gt (pc' := 9) d8_2 (by decide) (by decide) (fun h => ?_) (fun h => ?_)
  · skip
    rw [show jmin x y = y from if_pos h]
    refine Ends.st (b := (10, _, _, _, 0, 0)) (s_iloadN d8_9 rfl) ?_
    exact e_ireturn d8_10 rfl (by decide) (by decide)
  · skip
    rw [show jmin x y = x from if_neg h]
    refine Ends.st (b := (6, _, _, _, 0, 0)) (s_iloadN d8_5 rfl) ?_
    refine Ends.st (b := (10, _, _, _, 0, 0)) (s_goto d8_6 (by decide) (by decide)) ?_
    exact e_ireturn d8_10 rfl (by decide) (by decide)
theorem mmax {l : Launch} {Z : State} {a0 : Array Value} (hw : ∀ d ∈ tables_1, d.before a0 Z = true) {ρ : oM} {A : oH} (x y : Int32) : Met l Z CK ρ (⟨"java/lang/Math", "max", "(II)I"⟩ : MethodName) jdk_29_method_65_code 2 (some .int) ({ frames := 0, cells := 0, slots := 0, locals := 0 } : Room) [] [.int x, .int y] A (some (.int (jmax x y))) A := by
  refine Met.of (L0 := [.val (.int x), .val (.int y)]) pn9 (oentry rfl) rfl ?_
  refine Ends.st (b := (1, _, _, _, 0, 0)) (s_iloadN d9_0 rfl) ?_
  refine Ends.st (b := (2, _, _, _, 0, 0)) (s_iloadN d9_1 rfl) ?_
  refine Ends.icmp_lt (pc' := 9) d9_2 (by decide) (by decide) (fun h => ?_) (fun h => ?_)
  · skip
    rw [show jmax x y = y from if_pos h]
    refine Ends.st (b := (10, _, _, _, 0, 0)) (s_iloadN d9_9 rfl) ?_
    exact e_ireturn d9_10 rfl (by decide) (by decide)
  · skip
    rw [show jmax x y = x from if_neg h]
    refine Ends.st (b := (6, _, _, _, 0, 0)) (s_iloadN d9_5 rfl) ?_
    refine Ends.st (b := (10, _, _, _, 0, 0)) (s_goto d9_6 (by decide) (by decide)) ?_
    exact e_ireturn d9_10 rfl (by decide) (by decide)
theorem mclear {l : Launch} {Z : State} {a0 : Array Value} (hw : ∀ d ∈ tables_1, d.before a0 Z = true) {ρ : oM} {c1 c2 : oC} (a b e g : Int32) : Met l Z CK ρ (⟨"com/example/honeyguide/honeyguide/service/Region", "clear", "()V"⟩ : MethodName) prog_104_method_4_code 1 none ({ frames := 0, cells := 0, slots := 0, locals := 0 } : Room) [] [.ref 0] [.inl (0, [.ref 1, .ref 2, .int a, .int b, .int e, .int g]), c1, c2] none [.inl (0, [.ref 1, .ref 2, .int 0, .int 2147483647, .int 0, .int g]), c1, c2] := by
  refine Met.of (L0 := [.val (.ref 0)]) pn4 (oentry rfl) rfl ?_
  refine Ends.st (b := (1, _, _, _, 0, 0)) (s_aloadN d4_0 rfl rfl) ?_
  refine Ends.st (b := (2, _, _, _, 0, 0)) (s_iconst (z := 0) d4_1 rfl) ?_
  refine Ends.st (b := (5, _, _, [.inl (_, [_, _, _, _, _, _]), _, _], 0, 0)) (s_putfield (cid := 0) (i := 2) (hw _ (List.mem_of_getElem? (i := 22) rfl)) (kok0 hw) rfl (Or.inl (hw _ (List.mem_of_getElem? (i := 23) rfl))) (hw _ (List.mem_of_getElem? (i := 1) rfl)) (ty := .int) (by decide) rfl rfl d4_2 rfl rfl rfl) ?_
  refine Ends.st (b := (6, _, _, _, 0, 0)) (s_aloadN d4_5 rfl rfl) ?_
  refine Ends.st (b := (8, _, _, _, 0, 0)) (s_ldc (hw _ (List.mem_of_getElem? (i := 24) rfl)) d4_6) ?_
  refine Ends.st (b := (11, _, _, [.inl (_, [_, _, _, _, _, _]), _, _], 0, 0)) (s_putfield (cid := 0) (i := 3) (hw _ (List.mem_of_getElem? (i := 25) rfl)) (kok0 hw) rfl (Or.inl (hw _ (List.mem_of_getElem? (i := 26) rfl))) (hw _ (List.mem_of_getElem? (i := 1) rfl)) (ty := .int) (by decide) rfl rfl d4_8 rfl rfl rfl) ?_
  refine Ends.st (b := (12, _, _, _, 0, 0)) (s_aloadN d4_11 rfl rfl) ?_
  refine Ends.st (b := (13, _, _, _, 0, 0)) (s_iconst (z := 0) d4_12 rfl) ?_
  refine Ends.st (b := (16, _, _, [.inl (_, [_, _, _, _, _, _]), _, _], 0, 0)) (s_putfield (cid := 0) (i := 4) (hw _ (List.mem_of_getElem? (i := 27) rfl)) (kok0 hw) rfl (Or.inl (hw _ (List.mem_of_getElem? (i := 28) rfl))) (hw _ (List.mem_of_getElem? (i := 1) rfl)) (ty := .int) (by decide) rfl rfl d4_13 rfl rfl rfl) ?_
  exact e_return d4_16 rfl (by decide) (by decide)
theorem mholds1 {l : Launch} {Z : State} {a0 : Array Value} (hw : ∀ d ∈ tables_1, d.before a0 Z = true) {ρ : oM} {ks : List Nat} {ws is : List Value} {q : Nat} {f e g : Int32} (H : Inv ks ws is q) (hq : q ≤ 100) (hn : ks.length ≤ 50) (w : Nat) (hwq : w < q) (t : Nat) (hk : ks[t]? = some w) : Met l Z CK ρ (⟨"com/example/honeyguide/honeyguide/service/Region", "holdsWord", "(I)Z"⟩ : MethodName) prog_104_method_12_code 3 (some .boolean) ({ frames := 0, cells := 0, slots := 0, locals := 0 } : Room) [] [.ref 0, .int (Int32.ofNat w)] [.inl (0, [.ref 1, .ref 2, .int (Int32.ofNat ks.length), .int f, .int e, .int g]), .inr (.int, ws), .inr (.int, is)] (some (.int 1)) [.inl (0, [.ref 1, .ref 2, .int (Int32.ofNat ks.length), .int f, .int e, .int g]), .inr (.int, ws), .inr (.int, is)] := by
  obtain ⟨h1, h2, h3, h4⟩ := H
  obtain ⟨g1, g2, g3⟩ := h3 t w hk
  have ht := (List.getElem?_eq_some_iff.mp hk).1
  refine Met.of (L0 := [.val (.ref 0), .val (.int (Int32.ofNat w)), .unset]) pn6 (oentry rfl) rfl ?_
  refine Ends.st (b := (1, _, _, _, 0, 0)) (s_aloadN d6_0 rfl rfl) ?_
  refine Ends.st (b := (4, _, _, _, 0, 0)) (s_getfield (cid := 0) (i := 1) (hw _ (List.mem_of_getElem? (i := 15) rfl)) rfl d6_1 rfl rfl) ?_
  refine Ends.st (b := (5, _, _, _, 0, 0)) (s_iloadN d6_4 rfl) ?_
  refine Ends.st (b := (6, _, _, _, 0, 0)) (s_iaload d6_5 rfl (nneg_of (by omega)) (by rw [tnc_of (by omega)]; exact g3)) ?_
  refine Ends.st (b := (7, [_, _, _], _, _, 0, 0)) (s_istoreN d6_6 rfl) ?_
  refine Ends.st (b := (8, _, _, _, 0, 0)) (s_iloadN d6_7 rfl) ?_
  refine Ends.st (b := (9, _, _, _, 0, 0)) (s_aloadN d6_8 rfl rfl) ?_
  refine Ends.st (b := (12, _, _, _, 0, 0)) (s_getfield (cid := 0) (i := 2) (hw _ (List.mem_of_getElem? (i := 22) rfl)) rfl d6_9 rfl rfl) ?_
  refine Ends.st (b := (15, _, _, _, 0, 0)) (s_icmp_ge_f d6_12 ((lt_of (by omega) (by omega)).mpr ht)) ?_
  refine Ends.st (b := (16, _, _, _, 0, 0)) (s_aloadN d6_15 rfl rfl) ?_
  refine Ends.st (b := (19, _, _, _, 0, 0)) (s_getfield (cid := 0) (i := 0) (hw _ (List.mem_of_getElem? (i := 13) rfl)) rfl d6_16 rfl rfl) ?_
  refine Ends.st (b := (20, _, _, _, 0, 0)) (s_iloadN d6_19 rfl) ?_
  refine Ends.st (b := (21, _, _, _, 0, 0)) (s_iaload d6_20 rfl (nneg_of (by omega)) (by rw [tnc_of (by omega)]; exact g2)) ?_
  refine Ends.st (b := (22, _, _, _, 0, 0)) (s_iloadN d6_21 rfl) ?_
  refine Ends.st (b := (25, _, _, _, 0, 0)) (s_icmp_ne_f d6_22 rfl) ?_
  refine Ends.st (b := (26, _, _, _, 0, 0)) (s_iconst (z := 1) d6_25 rfl) ?_
  refine Ends.st (b := (30, _, _, _, 0, 0)) (s_goto d6_26 (by decide) (by decide)) ?_
  exact e_nreturn d6_30 rfl (by simp) rfl (by decide) (by decide)
theorem mholds0 {l : Launch} {Z : State} {a0 : Array Value} (hw : ∀ d ∈ tables_1, d.before a0 Z = true) {ρ : oM} {ks : List Nat} {ws is : List Value} {q : Nat} {f e g : Int32} (H : Inv ks ws is q) (hq : q ≤ 100) (hn : ks.length ≤ 50) (w : Nat) (hwq : w < q) (hk : ∀ t : Nat, ks[t]? ≠ some w) : Met l Z CK ρ (⟨"com/example/honeyguide/honeyguide/service/Region", "holdsWord", "(I)Z"⟩ : MethodName) prog_104_method_12_code 3 (some .boolean) ({ frames := 0, cells := 0, slots := 0, locals := 0 } : Room) [] [.ref 0, .int (Int32.ofNat w)] [.inl (0, [.ref 1, .ref 2, .int (Int32.ofNat ks.length), .int f, .int e, .int g]), .inr (.int, ws), .inr (.int, is)] (some (.int 0)) [.inl (0, [.ref 1, .ref 2, .int (Int32.ofNat ks.length), .int f, .int e, .int g]), .inr (.int, ws), .inr (.int, is)] := by
  obtain ⟨h1, h2, h3, h4⟩ := H
  obtain ⟨v, hv, g3⟩ := h4 w hwq
  by_cases hvn : v < ks.length
  · obtain ⟨g1, g2, -⟩ := h3 v ks[v] (List.getElem?_eq_getElem hvn)
    have hne : ks[v] ≠ w := fun e => hk v (by rw [List.getElem?_eq_getElem hvn, e])
    refine Met.of (L0 := [.val (.ref 0), .val (.int (Int32.ofNat w)), .unset]) pn6 (oentry rfl) rfl ?_
    refine Ends.st (b := (1, _, _, _, 0, 0)) (s_aloadN d6_0 rfl rfl) ?_
    refine Ends.st (b := (4, _, _, _, 0, 0)) (s_getfield (cid := 0) (i := 1) (hw _ (List.mem_of_getElem? (i := 15) rfl)) rfl d6_1 rfl rfl) ?_
    refine Ends.st (b := (5, _, _, _, 0, 0)) (s_iloadN d6_4 rfl) ?_
    refine Ends.st (b := (6, _, _, _, 0, 0)) (s_iaload d6_5 rfl (nneg_of (by omega)) (by rw [tnc_of (by omega)]; exact g3)) ?_
    refine Ends.st (b := (7, [_, _, _], _, _, 0, 0)) (s_istoreN d6_6 rfl) ?_
    refine Ends.st (b := (8, _, _, _, 0, 0)) (s_iloadN d6_7 rfl) ?_
    refine Ends.st (b := (9, _, _, _, 0, 0)) (s_aloadN d6_8 rfl rfl) ?_
    refine Ends.st (b := (12, _, _, _, 0, 0)) (s_getfield (cid := 0) (i := 2) (hw _ (List.mem_of_getElem? (i := 22) rfl)) rfl d6_9 rfl rfl) ?_
    refine Ends.st (b := (15, _, _, _, 0, 0)) (s_icmp_ge_f d6_12 ((lt_of (by omega) (by omega)).mpr hvn)) ?_
    refine Ends.st (b := (16, _, _, _, 0, 0)) (s_aloadN d6_15 rfl rfl) ?_
    refine Ends.st (b := (19, _, _, _, 0, 0)) (s_getfield (cid := 0) (i := 0) (hw _ (List.mem_of_getElem? (i := 13) rfl)) rfl d6_16 rfl rfl) ?_
    refine Ends.st (b := (20, _, _, _, 0, 0)) (s_iloadN d6_19 rfl) ?_
    refine Ends.st (b := (21, _, _, _, 0, 0)) (s_iaload d6_20 rfl (nneg_of (by omega)) (by rw [tnc_of (by omega)]; exact g2)) ?_
    refine Ends.st (b := (22, _, _, _, 0, 0)) (s_iloadN d6_21 rfl) ?_
    refine Ends.st (b := (29, _, _, _, 0, 0)) (s_icmp_ne_t d6_22 (fun z => hne ((eq_of (by omega) (by omega)).mp z)) (by decide) (by decide)) ?_
    refine Ends.st (b := (30, _, _, _, 0, 0)) (s_iconst (z := 0) d6_29 rfl) ?_
    exact e_nreturn d6_30 rfl (by simp) rfl (by decide) (by decide)
  · skip
    refine Met.of (L0 := [.val (.ref 0), .val (.int (Int32.ofNat w)), .unset]) pn6 (oentry rfl) rfl ?_
    refine Ends.st (b := (1, _, _, _, 0, 0)) (s_aloadN d6_0 rfl rfl) ?_
    refine Ends.st (b := (4, _, _, _, 0, 0)) (s_getfield (cid := 0) (i := 1) (hw _ (List.mem_of_getElem? (i := 15) rfl)) rfl d6_1 rfl rfl) ?_
    refine Ends.st (b := (5, _, _, _, 0, 0)) (s_iloadN d6_4 rfl) ?_
    refine Ends.st (b := (6, _, _, _, 0, 0)) (s_iaload d6_5 rfl (nneg_of (by omega)) (by rw [tnc_of (by omega)]; exact g3)) ?_
    refine Ends.st (b := (7, [_, _, _], _, _, 0, 0)) (s_istoreN d6_6 rfl) ?_
    refine Ends.st (b := (8, _, _, _, 0, 0)) (s_iloadN d6_7 rfl) ?_
    refine Ends.st (b := (9, _, _, _, 0, 0)) (s_aloadN d6_8 rfl rfl) ?_
    refine Ends.st (b := (12, _, _, _, 0, 0)) (s_getfield (cid := 0) (i := 2) (hw _ (List.mem_of_getElem? (i := 22) rfl)) rfl d6_9 rfl rfl) ?_
    refine Ends.st (b := (29, _, _, _, 0, 0)) (s_icmp_ge_t d6_12 (fun z => hvn ((lt_of (by omega) (by omega)).mp z)) (by decide) (by decide)) ?_
    refine Ends.st (b := (30, _, _, _, 0, 0)) (s_iconst (z := 0) d6_29 rfl) ?_
    exact e_nreturn d6_30 rfl (by simp) rfl (by decide) (by decide)
theorem addTail {l : Launch} {Z : State} {a0 : Array Value} (hw : ∀ d ∈ tables_1, d.before a0 Z = true) {ρ : oM} {ws is : List Value} (p : Nat) (w k f e g : Int32) : ∃ g' : Int32, Ends l Z CK ρ "com/example/honeyguide/honeyguide/service/Region" "add" prog_104_method_5_code 3 ({ frames := 1, cells := 0, slots := 0, locals := 22 } : Room) none (61, [.val (.ref 0), .val (.int (Int32.ofNat p)), .val (.int w)], [], [.inl (0, [.ref 1, .ref 2, .int k, .int f, .int e, .int g]), .inr (.int, ws), .inr (.int, is)], 0, 0) none [.inl (0, [.ref 1, .ref 2, .int k, .int (jmin f (Int32.ofNat p)), .int (jmax e (Int32.ofNat p + 1)), .int g']), .inr (.int, ws), .inr (.int, is)] := by
  by_cases hc : jushr ((jmax e (Int32.ofNat p + 1)) - 1) 6 - jushr (jmin f (Int32.ofNat p)) 6 = k - 1
  · refine ⟨1, ?_⟩
    refine Ends.st (b := (62, _, _, _, 0, 0)) (s_aloadN d5_61 rfl rfl) ?_
    refine Ends.st (b := (63, _, _, _, 0, 0)) (s_aloadN d5_62 rfl rfl) ?_
    refine Ends.st (b := (66, _, _, _, 0, 0)) (s_getfield (cid := 0) (i := 3) (hw _ (List.mem_of_getElem? (i := 25) rfl)) rfl d5_63 rfl rfl) ?_
    refine Ends.st (b := (67, _, _, _, 0, 0)) (s_iloadN d5_66 rfl) ?_
    refine Ends.st (b := (70, _, [_, _], _, 0, 0)) (s_callS (W := 1) (hw _ (List.mem_of_getElem? (i := 42) rfl)) (hw _ (List.mem_of_getElem? (i := 43) rfl)) (hw _ (List.mem_of_getElem? (i := 44) rfl)) (hw _ (List.mem_of_getElem? (i := 45) rfl)) (by decide) (lenOf pd8 rfl) d5_67 (mmin hw _ _) rfl rfl (by decide) (by decide) (by decide) (by decide)) ?_
    refine Ends.st (b := (73, _, _, [.inl (_, [_, _, _, _, _, _]), _, _], 0, 0)) (s_putfield (cid := 0) (i := 3) (hw _ (List.mem_of_getElem? (i := 25) rfl)) (kok0 hw) rfl (Or.inl (hw _ (List.mem_of_getElem? (i := 26) rfl))) (hw _ (List.mem_of_getElem? (i := 1) rfl)) (ty := .int) (by decide) rfl rfl d5_70 rfl rfl rfl) ?_
    refine Ends.st (b := (74, _, _, _, 0, 0)) (s_aloadN d5_73 rfl rfl) ?_
    refine Ends.st (b := (75, _, _, _, 0, 0)) (s_aloadN d5_74 rfl rfl) ?_
    refine Ends.st (b := (78, _, _, _, 0, 0)) (s_getfield (cid := 0) (i := 4) (hw _ (List.mem_of_getElem? (i := 27) rfl)) rfl d5_75 rfl rfl) ?_
    refine Ends.st (b := (79, _, _, _, 0, 0)) (s_iloadN d5_78 rfl) ?_
    refine Ends.st (b := (80, _, _, _, 0, 0)) (s_iconst (z := 1) d5_79 rfl) ?_
    refine Ends.st (b := (81, _, _, _, 0, 0)) (s_iadd d5_80) ?_
    refine Ends.st (b := (84, _, [_, _], _, 0, 0)) (s_callS (W := 1) (hw _ (List.mem_of_getElem? (i := 46) rfl)) (hw _ (List.mem_of_getElem? (i := 47) rfl)) (hw _ (List.mem_of_getElem? (i := 44) rfl)) (hw _ (List.mem_of_getElem? (i := 48) rfl)) (by decide) (lenOf pd9 rfl) d5_81 (mmax hw _ _) rfl rfl (by decide) (by decide) (by decide) (by decide)) ?_
    refine Ends.st (b := (87, _, _, [.inl (_, [_, _, _, _, _, _]), _, _], 0, 0)) (s_putfield (cid := 0) (i := 4) (hw _ (List.mem_of_getElem? (i := 27) rfl)) (kok0 hw) rfl (Or.inl (hw _ (List.mem_of_getElem? (i := 28) rfl))) (hw _ (List.mem_of_getElem? (i := 1) rfl)) (ty := .int) (by decide) rfl rfl d5_84 rfl rfl rfl) ?_
    refine Ends.st (b := (88, _, _, _, 0, 0)) (s_aloadN d5_87 rfl rfl) ?_
    refine Ends.st (b := (89, _, _, _, 0, 0)) (s_aloadN d5_88 rfl rfl) ?_
    refine Ends.st (b := (92, _, _, _, 0, 0)) (s_getfield (cid := 0) (i := 4) (hw _ (List.mem_of_getElem? (i := 27) rfl)) rfl d5_89 rfl rfl) ?_
    refine Ends.st (b := (93, _, _, _, 0, 0)) (s_iconst (z := 1) d5_92 rfl) ?_
    refine Ends.st (b := (94, _, _, _, 0, 0)) (s_isub d5_93) ?_
    refine Ends.st (b := (96, _, _, _, 0, 0)) (s_bipush (z := 6) d5_94 (by decide)) ?_
    refine Ends.st (b := (97, _, _, _, 0, 0)) (s_iushr d5_96) ?_
    refine Ends.st (b := (98, _, _, _, 0, 0)) (s_aloadN d5_97 rfl rfl) ?_
    refine Ends.st (b := (101, _, _, _, 0, 0)) (s_getfield (cid := 0) (i := 3) (hw _ (List.mem_of_getElem? (i := 25) rfl)) rfl d5_98 rfl rfl) ?_
    refine Ends.st (b := (103, _, _, _, 0, 0)) (s_bipush (z := 6) d5_101 (by decide)) ?_
    refine Ends.st (b := (104, _, _, _, 0, 0)) (s_iushr d5_103) ?_
    refine Ends.st (b := (105, _, _, _, 0, 0)) (s_isub d5_104) ?_
    refine Ends.st (b := (106, _, _, _, 0, 0)) (s_aloadN d5_105 rfl rfl) ?_
    refine Ends.st (b := (109, _, _, _, 0, 0)) (s_getfield (cid := 0) (i := 2) (hw _ (List.mem_of_getElem? (i := 22) rfl)) rfl d5_106 rfl rfl) ?_
    refine Ends.st (b := (110, _, _, _, 0, 0)) (s_iconst (z := 1) d5_109 rfl) ?_
    refine Ends.st (b := (111, _, _, _, 0, 0)) (s_isub d5_110) ?_
    refine Ends.st (b := (114, _, _, _, 0, 0)) (s_icmp_ne_f d5_111 hc) ?_
    refine Ends.st (b := (115, _, _, _, 0, 0)) (s_iconst (z := 1) d5_114 rfl) ?_
    refine Ends.st (b := (119, _, _, _, 0, 0)) (s_goto d5_115 (by decide) (by decide)) ?_
    refine Ends.st (b := (122, _, _, [.inl (_, [_, _, _, _, _, _]), _, _], 0, 0)) (s_putfieldZ (cid := 0) (i := 5) (hw _ (List.mem_of_getElem? (i := 49) rfl)) (kok0 hw) rfl (Or.inl (hw _ (List.mem_of_getElem? (i := 50) rfl))) (hw _ (List.mem_of_getElem? (i := 1) rfl)) rfl d5_119 rfl rfl rfl) ?_
    exact e_return d5_122 rfl (by decide) (by decide)
  · refine ⟨0, ?_⟩
    refine Ends.st (b := (62, _, _, _, 0, 0)) (s_aloadN d5_61 rfl rfl) ?_
    refine Ends.st (b := (63, _, _, _, 0, 0)) (s_aloadN d5_62 rfl rfl) ?_
    refine Ends.st (b := (66, _, _, _, 0, 0)) (s_getfield (cid := 0) (i := 3) (hw _ (List.mem_of_getElem? (i := 25) rfl)) rfl d5_63 rfl rfl) ?_
    refine Ends.st (b := (67, _, _, _, 0, 0)) (s_iloadN d5_66 rfl) ?_
    refine Ends.st (b := (70, _, [_, _], _, 0, 0)) (s_callS (W := 1) (hw _ (List.mem_of_getElem? (i := 42) rfl)) (hw _ (List.mem_of_getElem? (i := 43) rfl)) (hw _ (List.mem_of_getElem? (i := 44) rfl)) (hw _ (List.mem_of_getElem? (i := 45) rfl)) (by decide) (lenOf pd8 rfl) d5_67 (mmin hw _ _) rfl rfl (by decide) (by decide) (by decide) (by decide)) ?_
    refine Ends.st (b := (73, _, _, [.inl (_, [_, _, _, _, _, _]), _, _], 0, 0)) (s_putfield (cid := 0) (i := 3) (hw _ (List.mem_of_getElem? (i := 25) rfl)) (kok0 hw) rfl (Or.inl (hw _ (List.mem_of_getElem? (i := 26) rfl))) (hw _ (List.mem_of_getElem? (i := 1) rfl)) (ty := .int) (by decide) rfl rfl d5_70 rfl rfl rfl) ?_
    refine Ends.st (b := (74, _, _, _, 0, 0)) (s_aloadN d5_73 rfl rfl) ?_
    refine Ends.st (b := (75, _, _, _, 0, 0)) (s_aloadN d5_74 rfl rfl) ?_
    refine Ends.st (b := (78, _, _, _, 0, 0)) (s_getfield (cid := 0) (i := 4) (hw _ (List.mem_of_getElem? (i := 27) rfl)) rfl d5_75 rfl rfl) ?_
    refine Ends.st (b := (79, _, _, _, 0, 0)) (s_iloadN d5_78 rfl) ?_
    refine Ends.st (b := (80, _, _, _, 0, 0)) (s_iconst (z := 1) d5_79 rfl) ?_
    refine Ends.st (b := (81, _, _, _, 0, 0)) (s_iadd d5_80) ?_
    refine Ends.st (b := (84, _, [_, _], _, 0, 0)) (s_callS (W := 1) (hw _ (List.mem_of_getElem? (i := 46) rfl)) (hw _ (List.mem_of_getElem? (i := 47) rfl)) (hw _ (List.mem_of_getElem? (i := 44) rfl)) (hw _ (List.mem_of_getElem? (i := 48) rfl)) (by decide) (lenOf pd9 rfl) d5_81 (mmax hw _ _) rfl rfl (by decide) (by decide) (by decide) (by decide)) ?_
    refine Ends.st (b := (87, _, _, [.inl (_, [_, _, _, _, _, _]), _, _], 0, 0)) (s_putfield (cid := 0) (i := 4) (hw _ (List.mem_of_getElem? (i := 27) rfl)) (kok0 hw) rfl (Or.inl (hw _ (List.mem_of_getElem? (i := 28) rfl))) (hw _ (List.mem_of_getElem? (i := 1) rfl)) (ty := .int) (by decide) rfl rfl d5_84 rfl rfl rfl) ?_
    refine Ends.st (b := (88, _, _, _, 0, 0)) (s_aloadN d5_87 rfl rfl) ?_
    refine Ends.st (b := (89, _, _, _, 0, 0)) (s_aloadN d5_88 rfl rfl) ?_
    refine Ends.st (b := (92, _, _, _, 0, 0)) (s_getfield (cid := 0) (i := 4) (hw _ (List.mem_of_getElem? (i := 27) rfl)) rfl d5_89 rfl rfl) ?_
    refine Ends.st (b := (93, _, _, _, 0, 0)) (s_iconst (z := 1) d5_92 rfl) ?_
    refine Ends.st (b := (94, _, _, _, 0, 0)) (s_isub d5_93) ?_
    refine Ends.st (b := (96, _, _, _, 0, 0)) (s_bipush (z := 6) d5_94 (by decide)) ?_
    refine Ends.st (b := (97, _, _, _, 0, 0)) (s_iushr d5_96) ?_
    refine Ends.st (b := (98, _, _, _, 0, 0)) (s_aloadN d5_97 rfl rfl) ?_
    refine Ends.st (b := (101, _, _, _, 0, 0)) (s_getfield (cid := 0) (i := 3) (hw _ (List.mem_of_getElem? (i := 25) rfl)) rfl d5_98 rfl rfl) ?_
    refine Ends.st (b := (103, _, _, _, 0, 0)) (s_bipush (z := 6) d5_101 (by decide)) ?_
    refine Ends.st (b := (104, _, _, _, 0, 0)) (s_iushr d5_103) ?_
    refine Ends.st (b := (105, _, _, _, 0, 0)) (s_isub d5_104) ?_
    refine Ends.st (b := (106, _, _, _, 0, 0)) (s_aloadN d5_105 rfl rfl) ?_
    refine Ends.st (b := (109, _, _, _, 0, 0)) (s_getfield (cid := 0) (i := 2) (hw _ (List.mem_of_getElem? (i := 22) rfl)) rfl d5_106 rfl rfl) ?_
    refine Ends.st (b := (110, _, _, _, 0, 0)) (s_iconst (z := 1) d5_109 rfl) ?_
    refine Ends.st (b := (111, _, _, _, 0, 0)) (s_isub d5_110) ?_
    refine Ends.st (b := (118, _, _, _, 0, 0)) (s_icmp_ne_t d5_111 hc (by decide) (by decide)) ?_
    refine Ends.st (b := (119, _, _, _, 0, 0)) (s_iconst (z := 0) d5_118 rfl) ?_
    refine Ends.st (b := (122, _, _, [.inl (_, [_, _, _, _, _, _]), _, _], 0, 0)) (s_putfieldZ (cid := 0) (i := 5) (hw _ (List.mem_of_getElem? (i := 49) rfl)) (kok0 hw) rfl (Or.inl (hw _ (List.mem_of_getElem? (i := 50) rfl))) (hw _ (List.mem_of_getElem? (i := 1) rfl)) rfl d5_119 rfl rfl rfl) ?_
    exact e_return d5_122 rfl (by decide) (by decide)
theorem addHeld {l : Launch} {Z : State} {a0 : Array Value} (hw : ∀ d ∈ tables_1, d.before a0 Z = true) {ρ : oM} {ks : List Nat} {ws is : List Value} {q : Nat} {f e g : Int32} (H : Inv ks ws is q) (hq : q ≤ 100) (hn : ks.length ≤ 50) (p : Nat) (hp : p < 64 * q) (t : Nat) (hk : ks[t]? = some (p / 64)) : ∃ g' : Int32, Met l Z CK ρ (⟨"com/example/honeyguide/honeyguide/service/Region", "add", "(I)V"⟩ : MethodName) prog_104_method_5_code 3 none ({ frames := 1, cells := 0, slots := 0, locals := 22 } : Room) [] [.ref 0, .int (Int32.ofNat p)] [.inl (0, [.ref 1, .ref 2, .int (Int32.ofNat ks.length), .int f, .int e, .int g]), .inr (.int, ws), .inr (.int, is)] none [.inl (0, [.ref 1, .ref 2, .int (Int32.ofNat ks.length), .int (jmin f (Int32.ofNat p)), .int (jmax e (Int32.ofNat p + 1)), .int g']), .inr (.int, ws), .inr (.int, is)] := by
  obtain ⟨g', hE⟩ := addTail (l := l) (ρ := ρ) hw (ws := ws) (is := is) p (Int32.ofNat (p / 64)) (Int32.ofNat ks.length) f e g
  refine ⟨g', ?_⟩
  refine Met.of (L0 := [.val (.ref 0), .val (.int (Int32.ofNat p)), .unset]) pn5 (oentry rfl) rfl ?_
  refine Ends.st (b := (1, _, _, _, 0, 0)) (s_iloadN d5_0 rfl) ?_
  refine Ends.st (b := (3, _, _, _, 0, 0)) (s_bipush (z := 6) d5_1 (by decide)) ?_
  refine Ends.st (b := (4, _, _, _, 0, 0)) (s_iushr d5_3) ?_
  rw [of_ushr6 (by omega)]
  refine Ends.st (b := (5, [_, _, _], _, _, 0, 0)) (s_istoreN d5_4 rfl) ?_
  refine Ends.st (b := (6, _, _, _, 0, 0)) (s_aloadN d5_5 rfl rfl) ?_
  refine Ends.st (b := (7, _, _, _, 0, 0)) (s_iloadN d5_6 rfl) ?_
  refine Ends.st (b := (10, _, [_], _, 0, 0)) (s_callP (W := 0) (cid := 0) (hw _ (List.mem_of_getElem? (i := 34) rfl)) (hw _ (List.mem_of_getElem? (i := 35) rfl)) (hw _ (List.mem_of_getElem? (i := 2) rfl)) (hw _ (List.mem_of_getElem? (i := 37) rfl)) (hw _ (List.mem_of_getElem? (i := 36) rfl)) (hw _ (List.mem_of_getElem? (i := 1) rfl)) (by decide) (lenOf pd6 rfl) d5_7 rfl (mholds1 hw H hq hn (p / 64) (by omega) t hk) rfl rfl (by decide) (by decide) (by decide) (by decide)) ?_
  refine Ends.st (b := (61, _, _, _, 0, 0)) (s_if_ne_t d5_10 (by decide) (by decide) (by decide)) ?_
  exact hE
theorem addApp {l : Launch} {Z : State} {a0 : Array Value} (hw : ∀ d ∈ tables_1, d.before a0 Z = true) {ρ : oM} {ks : List Nat} {ws is : List Value} {q : Nat} {f e g : Int32} (H : Inv ks ws is q) (hq : q ≤ 100) (hn : ks.length ≤ 50) (p : Nat) (hp : p < 64 * q) (hnq : ks.length < q) (hk : ∀ t : Nat, ks[t]? ≠ some (p / 64)) (z : Nat) (hz : (ws.set ks.length (.int (Int32.ofNat (p / 64))))[0]? = some (.int (Int32.ofNat z))) (hzq : z < 1000) (hlt : ¬ p / 64 < z) : ∃ g' : Int32, Met l Z CK ρ (⟨"com/example/honeyguide/honeyguide/service/Region", "add", "(I)V"⟩ : MethodName) prog_104_method_5_code 3 none ({ frames := 1, cells := 0, slots := 0, locals := 22 } : Room) [] [.ref 0, .int (Int32.ofNat p)] [.inl (0, [.ref 1, .ref 2, .int (Int32.ofNat ks.length), .int f, .int e, .int g]), .inr (.int, ws), .inr (.int, is)] none [.inl (0, [.ref 1, .ref 2, .int (Int32.ofNat (ks.length + 1)), .int (jmin f (Int32.ofNat p)), .int (jmax e (Int32.ofNat p + 1)), .int g']), .inr (.int, ws.set ks.length (.int (Int32.ofNat (p / 64)))), .inr (.int, is.set (p / 64) (.int (Int32.ofNat ks.length)))] := by
  obtain ⟨h1, h2, h3, h4⟩ := id H
  obtain ⟨g', hE⟩ := addTail (l := l) (ρ := ρ) hw (ws := ws.set ks.length (.int (Int32.ofNat (p / 64)))) (is := is.set (p / 64) (.int (Int32.ofNat ks.length))) p (Int32.ofNat (p / 64)) (Int32.ofNat (ks.length + 1)) f e g
  refine ⟨g', ?_⟩
  refine Met.of (L0 := [.val (.ref 0), .val (.int (Int32.ofNat p)), .unset]) pn5 (oentry rfl) rfl ?_
  refine Ends.st (b := (1, _, _, _, 0, 0)) (s_iloadN d5_0 rfl) ?_
  refine Ends.st (b := (3, _, _, _, 0, 0)) (s_bipush (z := 6) d5_1 (by decide)) ?_
  refine Ends.st (b := (4, _, _, _, 0, 0)) (s_iushr d5_3) ?_
  rw [of_ushr6 (by omega)]
  refine Ends.st (b := (5, [_, _, _], _, _, 0, 0)) (s_istoreN d5_4 rfl) ?_
  refine Ends.st (b := (6, _, _, _, 0, 0)) (s_aloadN d5_5 rfl rfl) ?_
  refine Ends.st (b := (7, _, _, _, 0, 0)) (s_iloadN d5_6 rfl) ?_
  refine Ends.st (b := (10, _, [_], _, 0, 0)) (s_callP (W := 0) (cid := 0) (hw _ (List.mem_of_getElem? (i := 34) rfl)) (hw _ (List.mem_of_getElem? (i := 35) rfl)) (hw _ (List.mem_of_getElem? (i := 2) rfl)) (hw _ (List.mem_of_getElem? (i := 37) rfl)) (hw _ (List.mem_of_getElem? (i := 36) rfl)) (hw _ (List.mem_of_getElem? (i := 1) rfl)) (by decide) (lenOf pd6 rfl) d5_7 rfl (mholds0 hw H hq hn (p / 64) (by omega) hk) rfl rfl (by decide) (by decide) (by decide) (by decide)) ?_
  refine Ends.st (b := (13, _, _, _, 0, 0)) (s_if_ne_f d5_10 (by decide)) ?_
  refine Ends.st (b := (14, _, _, _, 0, 0)) (s_aloadN d5_13 rfl rfl) ?_
  refine Ends.st (b := (15, _, _, _, 0, 0)) (s_iloadN d5_14 rfl) ?_
  refine Ends.st (b := (16, _, _, _, 0, 0)) (s_aloadN d5_15 rfl rfl) ?_
  refine Ends.st (b := (17, _, _, _, 0, 0)) (s_dup d5_16 rfl) ?_
  refine Ends.st (b := (20, _, _, _, 0, 0)) (s_getfield (cid := 0) (i := 2) (hw _ (List.mem_of_getElem? (i := 22) rfl)) rfl d5_17 rfl rfl) ?_
  refine Ends.st (b := (21, _, _, _, 0, 0)) (s_dupX1 d5_20 rfl rfl) ?_
  refine Ends.st (b := (22, _, _, _, 0, 0)) (s_iconst (z := 1) d5_21 rfl) ?_
  refine Ends.st (b := (23, _, _, _, 0, 0)) (s_iadd d5_22) ?_
  rw [show Int32.ofNat ks.length + 1 = Int32.ofNat (ks.length + 1) from of_add ks.length 1]
  refine Ends.st (b := (26, _, _, [.inl (_, [_, _, _, _, _, _]), _, _], 0, 0)) (s_putfield (cid := 0) (i := 2) (hw _ (List.mem_of_getElem? (i := 22) rfl)) (kok0 hw) rfl (Or.inl (hw _ (List.mem_of_getElem? (i := 23) rfl))) (hw _ (List.mem_of_getElem? (i := 1) rfl)) (ty := .int) (by decide) rfl rfl d5_23 rfl rfl rfl) ?_
  refine Ends.st (b := (29, _, [], _, 0, 0)) (s_callP (W := 0) (cid := 0) (hw _ (List.mem_of_getElem? (i := 38) rfl)) (hw _ (List.mem_of_getElem? (i := 39) rfl)) (hw _ (List.mem_of_getElem? (i := 2) rfl)) (hw _ (List.mem_of_getElem? (i := 41) rfl)) (hw _ (List.mem_of_getElem? (i := 40) rfl)) (hw _ (List.mem_of_getElem? (i := 1) rfl)) (by decide) (lenOf pd7 rfl) d5_26 rfl (mput hw (p / 64) ks.length (by omega) (by omega) (by omega) (by omega)) rfl rfl (by decide) (by decide) (by decide) (by decide)) ?_
  refine Ends.st (b := (30, _, _, _, 0, 0)) (s_iloadN d5_29 rfl) ?_
  refine Ends.st (b := (31, _, _, _, 0, 0)) (s_aloadN d5_30 rfl rfl) ?_
  refine Ends.st (b := (34, _, _, _, 0, 0)) (s_getfield (cid := 0) (i := 0) (hw _ (List.mem_of_getElem? (i := 13) rfl)) rfl d5_31 rfl rfl) ?_
  refine Ends.st (b := (35, _, _, _, 0, 0)) (s_iconst (z := 0) d5_34 rfl) ?_
  refine Ends.st (b := (36, _, _, _, 0, 0)) (s_iaload d5_35 rfl (by decide) hz) ?_
  refine Ends.st (b := (61, _, _, _, 0, 0)) (s_icmp_ge_t d5_36 (fun y => hlt ((lt_of (by omega) (by omega)).mp y)) (by decide) (by decide)) ?_
  exact hE
theorem addSwap {l : Launch} {Z : State} {a0 : Array Value} (hw : ∀ d ∈ tables_1, d.before a0 Z = true) {ρ : oM} {ks : List Nat} {ws is : List Value} {q : Nat} {f e g : Int32} (H : Inv ks ws is q) (hq : q ≤ 100) (hn : ks.length ≤ 50) (p : Nat) (hp : p < 64 * q) (hnq : ks.length < q) (hk : ∀ t : Nat, ks[t]? ≠ some (p / 64)) (z : Nat) (hz : (ws.set ks.length (.int (Int32.ofNat (p / 64))))[0]? = some (.int (Int32.ofNat z))) (hzq : z < q) (hlt : p / 64 < z) : ∃ g' : Int32, Met l Z CK ρ (⟨"com/example/honeyguide/honeyguide/service/Region", "add", "(I)V"⟩ : MethodName) prog_104_method_5_code 3 none ({ frames := 1, cells := 0, slots := 0, locals := 22 } : Room) [] [.ref 0, .int (Int32.ofNat p)] [.inl (0, [.ref 1, .ref 2, .int (Int32.ofNat ks.length), .int f, .int e, .int g]), .inr (.int, ws), .inr (.int, is)] none [.inl (0, [.ref 1, .ref 2, .int (Int32.ofNat (ks.length + 1)), .int (jmin f (Int32.ofNat p)), .int (jmax e (Int32.ofNat p + 1)), .int g']), .inr (.int, ((ws.set ks.length (.int (Int32.ofNat (p / 64)))).set ks.length (.int (Int32.ofNat z))).set 0 (.int (Int32.ofNat (p / 64)))), .inr (.int, ((is.set (p / 64) (.int (Int32.ofNat ks.length))).set z (.int (Int32.ofNat ks.length))).set (p / 64) (.int (Int32.ofNat 0)))] := by
  obtain ⟨h1, h2, h3, h4⟩ := id H
  obtain ⟨g', hE⟩ := addTail (l := l) (ρ := ρ) hw (ws := ((ws.set ks.length (.int (Int32.ofNat (p / 64)))).set ks.length (.int (Int32.ofNat z))).set 0 (.int (Int32.ofNat (p / 64)))) (is := ((is.set (p / 64) (.int (Int32.ofNat ks.length))).set z (.int (Int32.ofNat ks.length))).set (p / 64) (.int (Int32.ofNat 0))) p (Int32.ofNat (p / 64)) (Int32.ofNat (ks.length + 1)) f e g
  refine ⟨g', ?_⟩
  refine Met.of (L0 := [.val (.ref 0), .val (.int (Int32.ofNat p)), .unset]) pn5 (oentry rfl) rfl ?_
  refine Ends.st (b := (1, _, _, _, 0, 0)) (s_iloadN d5_0 rfl) ?_
  refine Ends.st (b := (3, _, _, _, 0, 0)) (s_bipush (z := 6) d5_1 (by decide)) ?_
  refine Ends.st (b := (4, _, _, _, 0, 0)) (s_iushr d5_3) ?_
  rw [of_ushr6 (by omega)]
  refine Ends.st (b := (5, [_, _, _], _, _, 0, 0)) (s_istoreN d5_4 rfl) ?_
  refine Ends.st (b := (6, _, _, _, 0, 0)) (s_aloadN d5_5 rfl rfl) ?_
  refine Ends.st (b := (7, _, _, _, 0, 0)) (s_iloadN d5_6 rfl) ?_
  refine Ends.st (b := (10, _, [_], _, 0, 0)) (s_callP (W := 0) (cid := 0) (hw _ (List.mem_of_getElem? (i := 34) rfl)) (hw _ (List.mem_of_getElem? (i := 35) rfl)) (hw _ (List.mem_of_getElem? (i := 2) rfl)) (hw _ (List.mem_of_getElem? (i := 37) rfl)) (hw _ (List.mem_of_getElem? (i := 36) rfl)) (hw _ (List.mem_of_getElem? (i := 1) rfl)) (by decide) (lenOf pd6 rfl) d5_7 rfl (mholds0 hw H hq hn (p / 64) (by omega) hk) rfl rfl (by decide) (by decide) (by decide) (by decide)) ?_
  refine Ends.st (b := (13, _, _, _, 0, 0)) (s_if_ne_f d5_10 (by decide)) ?_
  refine Ends.st (b := (14, _, _, _, 0, 0)) (s_aloadN d5_13 rfl rfl) ?_
  refine Ends.st (b := (15, _, _, _, 0, 0)) (s_iloadN d5_14 rfl) ?_
  refine Ends.st (b := (16, _, _, _, 0, 0)) (s_aloadN d5_15 rfl rfl) ?_
  refine Ends.st (b := (17, _, _, _, 0, 0)) (s_dup d5_16 rfl) ?_
  refine Ends.st (b := (20, _, _, _, 0, 0)) (s_getfield (cid := 0) (i := 2) (hw _ (List.mem_of_getElem? (i := 22) rfl)) rfl d5_17 rfl rfl) ?_
  refine Ends.st (b := (21, _, _, _, 0, 0)) (s_dupX1 d5_20 rfl rfl) ?_
  refine Ends.st (b := (22, _, _, _, 0, 0)) (s_iconst (z := 1) d5_21 rfl) ?_
  refine Ends.st (b := (23, _, _, _, 0, 0)) (s_iadd d5_22) ?_
  rw [show Int32.ofNat ks.length + 1 = Int32.ofNat (ks.length + 1) from of_add ks.length 1]
  refine Ends.st (b := (26, _, _, [.inl (_, [_, _, _, _, _, _]), _, _], 0, 0)) (s_putfield (cid := 0) (i := 2) (hw _ (List.mem_of_getElem? (i := 22) rfl)) (kok0 hw) rfl (Or.inl (hw _ (List.mem_of_getElem? (i := 23) rfl))) (hw _ (List.mem_of_getElem? (i := 1) rfl)) (ty := .int) (by decide) rfl rfl d5_23 rfl rfl rfl) ?_
  refine Ends.st (b := (29, _, [], _, 0, 0)) (s_callP (W := 0) (cid := 0) (hw _ (List.mem_of_getElem? (i := 38) rfl)) (hw _ (List.mem_of_getElem? (i := 39) rfl)) (hw _ (List.mem_of_getElem? (i := 2) rfl)) (hw _ (List.mem_of_getElem? (i := 41) rfl)) (hw _ (List.mem_of_getElem? (i := 40) rfl)) (hw _ (List.mem_of_getElem? (i := 1) rfl)) (by decide) (lenOf pd7 rfl) d5_26 rfl (mput hw (p / 64) ks.length (by omega) (by omega) (by omega) (by omega)) rfl rfl (by decide) (by decide) (by decide) (by decide)) ?_
  refine Ends.st (b := (30, _, _, _, 0, 0)) (s_iloadN d5_29 rfl) ?_
  refine Ends.st (b := (31, _, _, _, 0, 0)) (s_aloadN d5_30 rfl rfl) ?_
  refine Ends.st (b := (34, _, _, _, 0, 0)) (s_getfield (cid := 0) (i := 0) (hw _ (List.mem_of_getElem? (i := 13) rfl)) rfl d5_31 rfl rfl) ?_
  refine Ends.st (b := (35, _, _, _, 0, 0)) (s_iconst (z := 0) d5_34 rfl) ?_
  refine Ends.st (b := (36, _, _, _, 0, 0)) (s_iaload d5_35 rfl (by decide) hz) ?_
  refine Ends.st (b := (39, _, _, _, 0, 0)) (s_icmp_ge_f d5_36 ((lt_of (by omega) (by omega)).mpr hlt)) ?_
  refine Ends.st (b := (40, _, _, _, 0, 0)) (s_aloadN d5_39 rfl rfl) ?_
  refine Ends.st (b := (41, _, _, _, 0, 0)) (s_aloadN d5_40 rfl rfl) ?_
  refine Ends.st (b := (44, _, _, _, 0, 0)) (s_getfield (cid := 0) (i := 0) (hw _ (List.mem_of_getElem? (i := 13) rfl)) rfl d5_41 rfl rfl) ?_
  refine Ends.st (b := (45, _, _, _, 0, 0)) (s_iconst (z := 0) d5_44 rfl) ?_
  refine Ends.st (b := (46, _, _, _, 0, 0)) (s_iaload d5_45 rfl (by decide) hz) ?_
  refine Ends.st (b := (47, _, _, _, 0, 0)) (s_aloadN d5_46 rfl rfl) ?_
  refine Ends.st (b := (50, _, _, _, 0, 0)) (s_getfield (cid := 0) (i := 2) (hw _ (List.mem_of_getElem? (i := 22) rfl)) rfl d5_47 rfl rfl) ?_
  refine Ends.st (b := (51, _, _, _, 0, 0)) (s_iconst (z := 1) d5_50 rfl) ?_
  refine Ends.st (b := (52, _, _, _, 0, 0)) (s_isub d5_51) ?_
  rw [of_sub1 (by omega) (by omega), show ks.length + 1 - 1 = ks.length from rfl]
  refine Ends.st (b := (55, _, [], _, 0, 0)) (s_callP (W := 0) (cid := 0) (hw _ (List.mem_of_getElem? (i := 38) rfl)) (hw _ (List.mem_of_getElem? (i := 39) rfl)) (hw _ (List.mem_of_getElem? (i := 2) rfl)) (hw _ (List.mem_of_getElem? (i := 41) rfl)) (hw _ (List.mem_of_getElem? (i := 40) rfl)) (hw _ (List.mem_of_getElem? (i := 1) rfl)) (by decide) (lenOf pd7 rfl) d5_52 rfl (mput hw z ks.length (by omega) (by omega) (by rw [List.length_set]; omega) (by rw [List.length_set]; omega)) rfl rfl (by decide) (by decide) (by decide) (by decide)) ?_
  refine Ends.st (b := (56, _, _, _, 0, 0)) (s_aloadN d5_55 rfl rfl) ?_
  refine Ends.st (b := (57, _, _, _, 0, 0)) (s_iloadN d5_56 rfl) ?_
  refine Ends.st (b := (58, _, _, _, 0, 0)) (s_iconst (z := 0) d5_57 rfl) ?_
  refine Ends.st (b := (61, _, [], _, 0, 0)) (s_callP (W := 0) (cid := 0) (hw _ (List.mem_of_getElem? (i := 38) rfl)) (hw _ (List.mem_of_getElem? (i := 39) rfl)) (hw _ (List.mem_of_getElem? (i := 2) rfl)) (hw _ (List.mem_of_getElem? (i := 41) rfl)) (hw _ (List.mem_of_getElem? (i := 40) rfl)) (hw _ (List.mem_of_getElem? (i := 1) rfl)) (by decide) (lenOf pd7 rfl) d5_58 rfl (mput hw (p / 64) 0 (by omega) (by decide) (by rw [List.length_set, List.length_set]; omega) (by rw [List.length_set, List.length_set]; omega)) rfl rfl (by decide) (by decide) (by decide) (by decide)) ?_
  exact hE
def addK (ks : List Nat) (w : Nat) : List Nat := if w ∈ ks then ks else match ks with
  | [] => [w]
  | k :: t => if w < k then w :: t ++ [k] else k :: t ++ [w]
theorem addOk {l : Launch} {Z : State} {a0 : Array Value} (hw : ∀ d ∈ tables_1, d.before a0 Z = true) {ρ : oM} {ks : List Nat} {ws is : List Value} {q : Nat} {f e g : Int32} (H : Inv ks ws is q) (hq : q ≤ 100) (hn : ks.length ≤ 50) (p : Nat) (hp : p < 64 * q) (hnq : ks.length < q) :
    ∃ (ws' is' : List Value) (g' : Int32), Inv (addK ks (p / 64)) ws' is' q ∧ Met l Z CK ρ (⟨"com/example/honeyguide/honeyguide/service/Region", "add", "(I)V"⟩ : MethodName) prog_104_method_5_code 3 none ({ frames := 1, cells := 0, slots := 0, locals := 22 } : Room) [] [.ref 0, .int (Int32.ofNat p)] [.inl (0, [.ref 1, .ref 2, .int (Int32.ofNat ks.length), .int f, .int e, .int g]), .inr (.int, ws), .inr (.int, is)] none [.inl (0, [.ref 1, .ref 2, .int (Int32.ofNat (addK ks (p / 64)).length), .int (jmin f (Int32.ofNat p)), .int (jmax e (Int32.ofNat p + 1)), .int g']), .inr (.int, ws'), .inr (.int, is')] := by
  have hwq : p / 64 < q := by omega
  by_cases hm : p / 64 ∈ ks
  · obtain ⟨t, ht⟩ := List.mem_iff_getElem?.mp hm
    obtain ⟨g', hM⟩ := addHeld (l := l) (ρ := ρ) (f := f) (e := e) (g := g) hw H hq hn p hp t ht
    have ek : addK ks (p / 64) = ks := if_pos hm
    exact ⟨ws, is, g', by rw [ek]; exact H, by rw [ek]; exact hM⟩
  · have hk : ∀ t : Nat, ks[t]? ≠ some (p / 64) := fun t h => hm (List.mem_of_getElem? h)
    have hA := H.app hwq hnq (by omega) hk
    match ks with
    | [] =>
      obtain ⟨g', hM⟩ := addApp (l := l) (ρ := ρ) (f := f) (e := e) (g := g) hw H hq hn p hp hnq hk (p / 64) (List.getElem?_set_self (by have := H.1; omega)) (by omega) (Nat.lt_irrefl _)
      have ek : addK [] (p / 64) = [p / 64] := if_neg hm
      exact ⟨_, _, g', by rw [ek]; exact hA, by rw [ek]; exact hM⟩
    | k :: t =>
      have a0 := H.2.2.1 0 k rfl
      have hz : (ws.set (k :: t).length (.int (Int32.ofNat (p / 64))))[0]? = some (.int (Int32.ofNat k)) := by rw [List.getElem?_set_ne (by simp)]; exact a0.2.1
      have hne : k ≠ p / 64 := fun z => hk 0 (by rw [← z]; rfl)
      by_cases hlt : p / 64 < k
      · obtain ⟨g', hM⟩ := addSwap (l := l) (ρ := ρ) (f := f) (e := e) (g := g) hw H hq hn p hp hnq hk k hz a0.1 hlt
        have ek : addK (k :: t) (p / 64) = p / 64 :: t ++ [k] := (if_neg hm).trans (if_pos hlt)
        have el : (p / 64 :: t ++ [k]).length = (k :: t).length + 1 := by simp
        have hd : ∀ j : Nat, t[j]? ≠ some k ∧ t[j]? ≠ some (p / 64) := fun j => ⟨fun z => by
          have b := (H.2.2.1 (j + 1) k z).2.2
          rw [a0.2.2] at b
          have hj := (List.getElem?_eq_some_iff.mp z).1
          have hl : (k :: t).length = t.length + 1 := rfl
          have b' := (eq_of (i := 0) (j := j + 1) (by decide) (by omega)).mp (Value.int.inj (Option.some.inj b))
          omega, fun z => hk (j + 1) z⟩
        exact ⟨_, _, g', by rw [ek]; exact Inv.swap hA hne (by have : (k :: t).length = t.length + 1 := rfl; omega) hd, by rw [ek, el]; exact hM⟩
      · obtain ⟨g', hM⟩ := addApp (l := l) (ρ := ρ) (f := f) (e := e) (g := g) hw H hq hn p hp hnq hk k hz (by have := a0.1; omega) hlt
        have ek : addK (k :: t) (p / 64) = k :: t ++ [p / 64] := (if_neg hm).trans (if_neg hlt)
        have el : (k :: t ++ [p / 64]).length = (k :: t).length + 1 := by simp
        exact ⟨_, _, g', by rw [ek]; exact hA, by rw [ek, el]; exact hM⟩
theorem Inv.empty (q : Nat) : Inv [] (List.replicate q (.int 0)) (List.replicate q (.int 0)) q := ⟨by simp, by simp, fun t x h => by simp at h, fun w hw => ⟨0, by decide, by rw [List.getElem?_replicate, if_pos hw]; rfl⟩⟩
theorem jmin_of {a b : Nat} (ha : a < 2147483648) (hb : b < 2147483648) : jmin (Int32.ofNat a) (Int32.ofNat b) = Int32.ofNat (min a b) := by
  unfold jmin
  by_cases q : b < a
  · rw [if_pos ((lt_of hb ha).mpr q), Nat.min_eq_right (by omega)]
  · rw [if_neg (fun z => q ((lt_of hb ha).mp z)), Nat.min_eq_left (by omega)]
theorem jmax_of {a b : Nat} (ha : a < 2147483648) (hb : b < 2147483648) : jmax (Int32.ofNat a) (Int32.ofNat b) = Int32.ofNat (max a b) := by
  unfold jmax
  by_cases q : a < b
  · rw [if_pos ((lt_of ha hb).mpr q), Nat.max_eq_right (by omega)]
  · rw [if_neg (fun z => q ((lt_of ha hb).mp z)), Nat.max_eq_left (by omega)]
theorem of_and63 {i : Nat} (h : i < 4294967296) : Int32.ofNat i &&& 63 = Int32.ofNat (i % 64) := i32_of (by rw [u32_and, u32_of i h]; exact and63 i)
theorem of_shl6 {i : Nat} (h : i < 1000000) : jshl (Int32.ofNat i) 6 = Int32.ofNat (i * 64) := i32_of (by rw [u32_shl, u32_of i (by omega)]; exact Nat.mod_eq_of_lt (by show i * 64 < _; omega))
theorem of_or64 {i j : Nat} (h : i < 1000000) (hj : j < 64) : Int32.ofNat (i * 64) ||| Int32.ofNat j = Int32.ofNat (i * 64 + j) := i32_of (by
  rw [u32_or, u32_of (i * 64) (by omega), u32_of j (by omega)]
  have := Nat.two_pow_add_eq_or_of_lt (i := 6) (b := j) hj i
  rw [Nat.mul_comm] at this; exact this.symm)
theorem of_sub {i j : Nat} (h : j ≤ i) (h2 : i < 2147483648) : Int32.ofNat i - Int32.ofNat j = Int32.ofNat (i - j) := by
  apply Int32.toInt_inj.mp
  have h3 := c_isub (Int32.ofNat i) (Int32.ofNat j)
  have h4 := rng32 (Int32.ofNat i - Int32.ofNat j)
  rw [toInt_of h2, toInt_of (show j < 2147483648 by omega)] at h3
  rw [toInt_of (show i - j < 2147483648 by omega)]; omega
theorem mcount {l : Launch} {Z : State} {a0 : Array Value} (hw : ∀ d ∈ tables_1, d.before a0 Z = true) {ρ : oM} {v3 v4 v5 : Value} {c1 c2 : oC} (k : Int32) : Met l Z CK ρ (⟨"com/example/honeyguide/honeyguide/service/Region", "wordCount", "()I"⟩ : MethodName) prog_104_method_7_code 1 (some .int) ({ frames := 0, cells := 0, slots := 0, locals := 0 } : Room) [] [.ref 0] [.inl (0, [.ref 1, .ref 2, .int k, v3, v4, v5]), c1, c2] (some (.int k)) [.inl (0, [.ref 1, .ref 2, .int k, v3, v4, v5]), c1, c2] := by
  refine Met.of (L0 := [.val (.ref 0)]) pn10 (oentry rfl) rfl ?_
  refine Ends.st (b := (1, _, _, _, 0, 0)) (s_aloadN d10_0 rfl rfl) ?_
  refine Ends.st (b := (4, _, _, _, 0, 0)) (s_getfield (cid := 0) (i := 2) (hw _ (List.mem_of_getElem? (i := 22) rfl)) rfl d10_1 rfl rfl) ?_
  exact e_ireturn d10_4 rfl (by decide) (by decide)
theorem mword {l : Launch} {Z : State} {a0 : Array Value} (hw : ∀ d ∈ tables_1, d.before a0 Z = true) {ρ : oM} {v2 v3 v4 v5 : Value} {ws : List Value} {c2 : oC} (i : Nat) (x : Int32) (hi : i < 1000) (hx : ws[i]? = some (.int x)) : Met l Z CK ρ (⟨"com/example/honeyguide/honeyguide/service/Region", "word", "(I)I"⟩ : MethodName) prog_104_method_8_code 2 (some .int) ({ frames := 0, cells := 0, slots := 0, locals := 0 } : Room) [] [.ref 0, .int (Int32.ofNat i)] [.inl (0, [.ref 1, .ref 2, v2, v3, v4, v5]), .inr (.int, ws), c2] (some (.int x)) [.inl (0, [.ref 1, .ref 2, v2, v3, v4, v5]), .inr (.int, ws), c2] := by
  refine Met.of (L0 := [.val (.ref 0), .val (.int (Int32.ofNat i))]) pn11 (oentry rfl) rfl ?_
  refine Ends.st (b := (1, _, _, _, 0, 0)) (s_aloadN d11_0 rfl rfl) ?_
  refine Ends.st (b := (4, _, _, _, 0, 0)) (s_getfield (cid := 0) (i := 0) (hw _ (List.mem_of_getElem? (i := 13) rfl)) rfl d11_1 rfl rfl) ?_
  refine Ends.st (b := (5, _, _, _, 0, 0)) (s_iloadN d11_4 rfl) ?_
  refine Ends.st (b := (6, _, _, _, 0, 0)) (s_iaload d11_5 rfl (nneg_of (by omega)) (by rw [tnc_of (by omega)]; exact hx)) ?_
  exact e_ireturn d11_6 rfl (by decide) (by decide)
theorem mpos {l : Launch} {Z : State} {a0 : Array Value} (hw : ∀ d ∈ tables_1, d.before a0 Z = true) {ρ : oM} {v2 v4 v5 : Value} {ws : List Value} {c2 : oC} (F t w : Nat) (hF : F < 1000000) (ht : t < 1000000) (hw9 : w < 1000) (hx : ws[(t + F % 64) / 64]? = some (.int (Int32.ofNat w))) : Met l Z CK ρ (⟨"com/example/honeyguide/honeyguide/service/Region", "position", "(I)I"⟩ : MethodName) prog_104_method_17_code 3 (some .int) ({ frames := 0, cells := 0, slots := 0, locals := 0 } : Room) [] [.ref 0, .int (Int32.ofNat t)] [.inl (0, [.ref 1, .ref 2, v2, .int (Int32.ofNat F), v4, v5]), .inr (.int, ws), c2] (some (.int (Int32.ofNat (w * 64 + (t + F % 64) % 64)))) [.inl (0, [.ref 1, .ref 2, v2, .int (Int32.ofNat F), v4, v5]), .inr (.int, ws), c2] := by
  refine Met.of (L0 := [.val (.ref 0), .val (.int (Int32.ofNat t)), .unset]) pn12 (oentry rfl) rfl ?_
  refine Ends.st (b := (1, _, _, _, 0, 0)) (s_iloadN d12_0 rfl) ?_
  refine Ends.st (b := (2, _, _, _, 0, 0)) (s_aloadN d12_1 rfl rfl) ?_
  refine Ends.st (b := (5, _, _, _, 0, 0)) (s_getfield (cid := 0) (i := 3) (hw _ (List.mem_of_getElem? (i := 25) rfl)) rfl d12_2 rfl rfl) ?_
  refine Ends.st (b := (7, _, _, _, 0, 0)) (s_bipush (z := 63) d12_5 (by decide)) ?_
  refine Ends.st (b := (8, _, _, _, 0, 0)) (s_iand d12_7) ?_
  refine Ends.st (b := (9, _, _, _, 0, 0)) (s_iadd d12_8) ?_
  rw [of_and63 (by omega), of_add]
  refine Ends.st (b := (10, [_, _, _], _, _, 0, 0)) (s_istoreN d12_9 rfl) ?_
  refine Ends.st (b := (11, _, _, _, 0, 0)) (s_aloadN d12_10 rfl rfl) ?_
  refine Ends.st (b := (14, _, _, _, 0, 0)) (s_getfield (cid := 0) (i := 0) (hw _ (List.mem_of_getElem? (i := 13) rfl)) rfl d12_11 rfl rfl) ?_
  refine Ends.st (b := (15, _, _, _, 0, 0)) (s_iloadN d12_14 rfl) ?_
  refine Ends.st (b := (17, _, _, _, 0, 0)) (s_bipush (z := 6) d12_15 (by decide)) ?_
  refine Ends.st (b := (18, _, _, _, 0, 0)) (s_iushr d12_17) ?_
  rw [of_ushr6 (by omega)]
  refine Ends.st (b := (19, _, _, _, 0, 0)) (s_iaload d12_18 rfl (nneg_of (by omega)) (by rw [tnc_of (by omega)]; exact hx)) ?_
  refine Ends.st (b := (21, _, _, _, 0, 0)) (s_bipush (z := 6) d12_19 (by decide)) ?_
  refine Ends.st (b := (22, _, _, _, 0, 0)) (s_ishl d12_21) ?_
  refine Ends.st (b := (23, _, _, _, 0, 0)) (s_iloadN d12_22 rfl) ?_
  refine Ends.st (b := (25, _, _, _, 0, 0)) (s_bipush (z := 63) d12_23 (by decide)) ?_
  refine Ends.st (b := (26, _, _, _, 0, 0)) (s_iand d12_25) ?_
  refine Ends.st (b := (27, _, _, _, 0, 0)) (s_ior d12_26) ?_
  rw [of_shl6 (by omega), of_and63 (by omega), of_or64 (by omega) (by omega)]
  exact e_ireturn d12_27 rfl (by decide) (by decide)
/-! three words -/
def ks3 (a b d : Nat) : List Nat := addK (addK (addK [] a) b) d
theorem ks3_ok : ∀ a b d : Fin 8, 1 ≤ (ks3 a b d).length ∧ (ks3 a b d).length ≤ 3 ∧ (ks3 a b d)[0]? = some (min a.val (min b.val d.val)) ∧ (∀ x ∈ ks3 a b d, x = a ∨ x = b ∨ x = d) ∧ (addK (addK [] a.val) b.val).length ≤ 2 ∧ (addK [] a.val).length ≤ 1 := by decide +kernel
theorem tl {l : Launch} {Z : State} {a0 : Array Value} (hw : ∀ d ∈ tables_1, d.before a0 Z = true) {ρ : oM} {ks : List Nat} {ws is : List Value} {g : Int32} (a b d sel off : Int32) (A B D F E w P j : Nat) (hj : j < ks.length) (hl : ks.length ≤ 3) (H : Inv ks ws is 8) (hkj : ks[j]? = some w) (hP : P / 64 = w) (hF : F ≤ P) (hF9 : F < 512) (hP9 : P < 512) (h0 : j = 0 → F / 64 = w) : EndsE l Z CK ρ "com/example/honeyguide/honeyguide/service/RegionPositionPinLaw" "law" code maxLocals room_1 ret (215, [.val (.int a), .val (.int b), .val (.int d), .val (.int sel), .val (.int off), .val (.int (Int32.ofNat (A))), .val (.int (Int32.ofNat (B))), .val (.int (Int32.ofNat (D))), .val (.ref 0), .val (.int (Int32.ofNat (F))), .val (.int (Int32.ofNat (E))), .val (.int (Int32.ofNat (ks.length))), .val (.int (Int32.ofNat (j))), .val (.int (Int32.ofNat (w))), .val (.int (Int32.ofNat (P))), .unset], [], [.inl (0, [.ref 1, .ref 2, .int (Int32.ofNat (ks.length)), .int (Int32.ofNat (F)), .int (Int32.ofNat (E)), .int g]), .inr (.int, ws), .inr (.int, is)], 3, 22) (some (.int 1)) := by
  obtain ⟨w1, w2, -⟩ := H.2.2.1 j w hkj
  have hsub : F % 64 ≤ j * 64 + P % 64 := by
    rcases Nat.eq_zero_or_pos j with z | z
    · have := h0 z; omega
    · omega
  have e1 : j * 64 + P % 64 - F % 64 + F % 64 = j * 64 + P % 64 := by omega
  have hx : ws[(j * 64 + P % 64 - F % 64 + F % 64) / 64]? = some (.int (Int32.ofNat w)) := by rw [e1, show (j * 64 + P % 64) / 64 = j by omega]; exact w2
  have hM := mpos (l := l) (ρ := ρ) hw (v2 := .int (Int32.ofNat ks.length)) (v4 := .int (Int32.ofNat E)) (v5 := .int g) (c2 := .inr (.int, is)) F (j * 64 + P % 64 - F % 64) w (by omega) (by omega) (by omega) hx
  rw [e1, show w * 64 + (j * 64 + P % 64) % 64 = P by omega] at hM
  refine EndsE.st (b := (217, _, _, _, 3, 22)) (s_iload at_215 rfl) ?_
  refine EndsE.st (b := (219, _, _, _, 3, 22)) (s_bipush (z := 6) at_217 (by decide)) ?_
  refine EndsE.st (b := (220, _, _, _, 3, 22)) (s_ishl at_219) ?_
  refine EndsE.st (b := (222, _, _, _, 3, 22)) (s_iload at_220 rfl) ?_
  refine EndsE.st (b := (224, _, _, _, 3, 22)) (s_bipush (z := 63) at_222 (by decide)) ?_
  refine EndsE.st (b := (225, _, _, _, 3, 22)) (s_iand at_224) ?_
  refine EndsE.st (b := (226, _, _, _, 3, 22)) (s_iadd at_225) ?_
  refine EndsE.st (b := (228, _, _, _, 3, 22)) (s_iload at_226 rfl) ?_
  refine EndsE.st (b := (230, _, _, _, 3, 22)) (s_bipush (z := 63) at_228 (by decide)) ?_
  refine EndsE.st (b := (231, _, _, _, 3, 22)) (s_iand at_230) ?_
  refine EndsE.st (b := (232, _, _, _, 3, 22)) (s_isub at_231) ?_
  rw [of_shl6 (by omega), of_and63 (by omega), of_and63 (by omega), of_add, of_sub hsub (by omega)]
  refine EndsE.st (b := (234, [_, _, _, _, _, _, _, _, _, _, _, _, _, _, _, _], _, _, 3, 22)) (s_istore at_232 rfl) ?_
  refine EndsE.st (b := (236, _, _, _, 3, 22)) (s_aload at_234 rfl rfl) ?_
  refine EndsE.st (b := (238, _, _, _, 3, 22)) (s_iload at_236 rfl) ?_
  refine EndsE.st (b := (241, _, [_], _, 3, 22)) (s_callV (W := 0) (cid := 0) (hw _ (List.mem_of_getElem? (i := 64) rfl)) (hw _ (List.mem_of_getElem? (i := 66) rfl)) (hw _ (List.mem_of_getElem? (i := 2) rfl)) (hw _ (List.mem_of_getElem? (i := 68) rfl)) (hw _ (List.mem_of_getElem? (i := 65) rfl)) (hw _ (List.mem_of_getElem? (i := 67) rfl)) (by decide) rfl (lenOf pd12 rfl) at_238 rfl (hM) rfl rfl (by decide) (by decide) (by decide) (by decide)) ?_
  refine EndsE.st (b := (243, _, _, _, 3, 22)) (s_iload at_241 rfl) ?_
  refine EndsE.st (b := (246, _, _, _, 3, 22)) (s_icmp_ne_f at_243 rfl) ?_
  refine EndsE.st (b := (247, _, _, _, 3, 22)) (s_iconst (z := 1) at_246 rfl) ?_
  refine EndsE.st (b := (251, _, _, _, 3, 22)) (s_goto at_247 (by decide) (by decide)) ?_
  exact ⟨_, e_nreturn at_251 rfl (by simp) rfl (by decide) (by decide)⟩
theorem mask511 (x : Int32) : ∃ k : Nat, x &&& 511 = Int32.ofNat k ∧ k < 512 := by
  have e : u32 (x &&& 511) = u32 x % 512 := (u32_and x 511).trans (Nat.and_two_pow_sub_one_eq_mod _ 9)
  exact ⟨_, i32_of e, by omega⟩
theorem mask_n (x : Int32) : ∃ k : Nat, x &&& 2147483647 = Int32.ofNat k ∧ k < 2147483648 := by
  have e : u32 (x &&& 2147483647) = u32 x % 2147483648 := (u32_and x 2147483647).trans (Nat.and_two_pow_sub_one_eq_mod _ 31)
  exact ⟨_, i32_of e, by omega⟩
theorem of_rem {a b : Nat} (ha : a < 2147483648) (hb : b < 2147483648) (hb0 : 0 < b) : Int32.ofNat a % Int32.ofNat b = Int32.ofNat (a % b) := by
  apply Int32.toInt_inj.mp
  have := (c_irem (Int32.ofNat a) (Int32.ofNat b) b (toInt_of hb)).1 (by rw [toInt_of ha]; omega)
  have hlt := Nat.mod_lt a hb0
  rw [this, toInt_of ha, toInt_of (by omega)]; rfl
theorem of_ne0 {i : Nat} (h : 0 < i) (h2 : i < 2147483648) : Int32.ofNat i ≠ 0 := by
  intro q; have := (eq_of h2 (j := 0) (by decide)).mp q; omega
theorem law_ok {l : Launch} {Z : State} {a0 : Array Value} (hw : ∀ d ∈ tables_1, d.before a0 Z = true) {ρ : oM} (a b d sel off : Int32) : ∃ A2, Met l Z CK ρ x code maxLocals ret room_1 tables_1 [.int a, .int b, .int d, .int sel, .int off] [] (some (.int 1)) A2 := by
  obtain ⟨A, eA, hA⟩ := mask511 a
  obtain ⟨B, eB, hB⟩ := mask511 b
  obtain ⟨D, eD, hD⟩ := mask511 d
  obtain ⟨k1, k2, k3, k4, k5, k6⟩ := ks3_ok ⟨A / 64, by omega⟩ ⟨B / 64, by omega⟩ ⟨D / 64, by omega⟩
  dsimp only at k1 k2 k3 k4 k5 k6
  obtain ⟨ws1, is1, g1, I1, M1⟩ := addOk (l := l) (ρ := ρ) (f := 2147483647) (e := 0) (g := 0) hw (Inv.empty 8) (by decide) (by decide) A (by omega) (by decide)
  obtain ⟨ws2, is2, g2, I2, M2⟩ := addOk (l := l) (ρ := ρ) (f := jmin 2147483647 (Int32.ofNat A)) (e := jmax 0 (Int32.ofNat A + 1)) (g := g1) hw I1 (by decide) (by omega) B (by omega) (by omega)
  obtain ⟨ws3, is3, g3, I3, M3⟩ := addOk (l := l) (ρ := ρ) (f := jmin (jmin 2147483647 (Int32.ofNat A)) (Int32.ofNat B)) (e := jmax (jmax 0 (Int32.ofNat A + 1)) (Int32.ofNat B + 1)) (g := g2) hw I2 (by decide) (by omega) D (by omega) (by omega)
  obtain ⟨F, eF⟩ : ∃ F, F = min A (min B D) := ⟨_, rfl⟩
  obtain ⟨E, eE⟩ : ∃ E, E = max A (max B D) + 1 := ⟨_, rfl⟩
  have f3 : jmin (jmin (jmin 2147483647 (Int32.ofNat A)) (Int32.ofNat B)) (Int32.ofNat D) = Int32.ofNat F := by
    rw [show (2147483647 : Int32) = Int32.ofNat 2147483647 from rfl, jmin_of (by omega) (by omega), jmin_of (by omega) (by omega), jmin_of (by omega) (by omega)]; exact congrArg Int32.ofNat (by omega)
  have e3 : jmax (jmax (jmax 0 (Int32.ofNat A + 1)) (Int32.ofNat B + 1)) (Int32.ofNat D + 1) = Int32.ofNat E := by
    rw [show (0 : Int32) = Int32.ofNat 0 from rfl, show Int32.ofNat A + 1 = Int32.ofNat (A + 1) from of_add A 1, show Int32.ofNat B + 1 = Int32.ofNat (B + 1) from of_add B 1, show Int32.ofNat D + 1 = Int32.ofNat (D + 1) from of_add D 1, jmax_of (by omega) (by omega), jmax_of (by omega) (by omega), jmax_of (by omega) (by omega)]; exact congrArg Int32.ofNat (by omega)
  rw [f3, e3] at M3
  obtain ⟨ks, eks⟩ : ∃ z, z = ks3 (A / 64) (B / 64) (D / 64) := ⟨_, rfl⟩
  have eks' : addK (addK (addK [] (A / 64)) (B / 64)) (D / 64) = ks := eks.symm
  rw [eks'] at I3 M3
  rw [← eks] at k1 k2 k3 k4
  obtain ⟨sk, esk, hsk⟩ := mask_n sel
  obtain ⟨j, ej⟩ : ∃ j, j = sk % ks.length := ⟨_, rfl⟩
  have hj : j < ks.length := by rw [ej]; exact Nat.mod_lt _ (by omega)
  obtain ⟨w, hkj⟩ : ∃ w, ks[j]? = some w := ⟨_, List.getElem?_eq_getElem hj⟩
  have hmem := k4 w (List.mem_of_getElem? hkj)
  obtain ⟨w1, w2, -⟩ := I3.2.2.1 j w hkj
  obtain ⟨v1, v2, -⟩ := I3.2.2.1 0 _ k3
  have h0 : j = 0 → F / 64 = w := fun z => by rw [z, k3] at hkj; have := Option.some.inj hkj; omega
  obtain ⟨o, eo, ho⟩ : ∃ q : Nat, off &&& 63 = Int32.ofNat q ∧ q < 64 := by
    have e : u32 (off &&& 63) = u32 off % 64 := (u32_and off 63).trans (and63 _)
    exact ⟨_, i32_of e, by omega⟩
  have hv : min (A / 64) (min (B / 64) (D / 64)) = F / 64 := by omega
  rw [hv] at v2
  refine Met.ofE (L0 := [.val (.int a), .val (.int b), .val (.int d), .val (.int sel), .val (.int off), .unset, .unset, .unset, .unset, .unset, .unset, .unset, .unset, .unset, .unset, .unset]) pn0 (oentry rfl) rfl ?_
  refine EndsE.st (b := (1, _, _, _, 0, 0)) (s_iloadN at_0 rfl) ?_
  refine EndsE.st (b := (4, _, _, _, 0, 0)) (s_sipush (z := 511) at_1 (by decide)) ?_
  refine EndsE.st (b := (5, _, _, _, 0, 0)) (s_iand at_4) ?_
  rw [eA]
  refine EndsE.st (b := (7, [_, _, _, _, _, _, _, _, _, _, _, _, _, _, _, _], _, _, 0, 0)) (s_istore at_5 rfl) ?_
  refine EndsE.st (b := (8, _, _, _, 0, 0)) (s_iloadN at_7 rfl) ?_
  refine EndsE.st (b := (11, _, _, _, 0, 0)) (s_sipush (z := 511) at_8 (by decide)) ?_
  refine EndsE.st (b := (12, _, _, _, 0, 0)) (s_iand at_11) ?_
  rw [eB]
  refine EndsE.st (b := (14, [_, _, _, _, _, _, _, _, _, _, _, _, _, _, _, _], _, _, 0, 0)) (s_istore at_12 rfl) ?_
  refine EndsE.st (b := (15, _, _, _, 0, 0)) (s_iloadN at_14 rfl) ?_
  refine EndsE.st (b := (18, _, _, _, 0, 0)) (s_sipush (z := 511) at_15 (by decide)) ?_
  refine EndsE.st (b := (19, _, _, _, 0, 0)) (s_iand at_18) ?_
  rw [eD]
  refine EndsE.st (b := (21, [_, _, _, _, _, _, _, _, _, _, _, _, _, _, _, _], _, _, 0, 0)) (s_istore at_19 rfl) ?_
  refine EndsE.st (b := (24, _, _, [.inl (_, [_, _, _, _, _, _])], 1, 6)) (s_new (cid := 0) (j := 0) (vs := [.null, .null, .int 0, .int 0, .int 0, .int 0]) (hw _ (List.mem_of_getElem? (i := 0) rfl)) (hw _ (List.mem_of_getElem? (i := 1) rfl)) (hw _ (List.mem_of_getElem? (i := 2) rfl)) (kok0 hw) ⟨⟨(.array .int), by decide, rfl⟩, ⟨⟨(.array .int), by decide, rfl⟩, ⟨⟨.int, by decide, rfl⟩, ⟨⟨.int, by decide, rfl⟩, ⟨⟨.int, by decide, rfl⟩, ⟨⟨.boolean, by decide, rfl⟩, trivial⟩⟩⟩⟩⟩⟩ at_21 rfl (by decide) (by decide) rfl) ?_
  refine EndsE.st (b := (25, _, _, _, 1, 6)) (s_dup at_24 rfl) ?_
  refine EndsE.st (b := (28, _, _, _, 1, 6)) (s_sipush (z := 512) at_25 (by decide)) ?_
  refine EndsE.st (b := (31, _, [_], _, 3, 22)) (s_callI (W := 1) rfl (hw _ (List.mem_of_getElem? (i := 3) rfl)) (hw _ (List.mem_of_getElem? (i := 4) rfl)) (hw _ (List.mem_of_getElem? (i := 2) rfl)) (hw _ (List.mem_of_getElem? (i := 5) rfl)) (by decide) (lenOf pd1 rfl) at_28 (minit hw _ 8 (by decide) (by decide)) rfl rfl (by decide) (by decide) (by decide) (by decide)) ?_
  refine EndsE.st (b := (33, [_, _, _, _, _, _, _, _, _, _, _, _, _, _, _, _], _, _, 3, 22)) (s_astore at_31 rfl rfl) ?_
  refine EndsE.st (b := (35, _, _, _, 3, 22)) (s_aload at_33 rfl rfl) ?_
  refine EndsE.st (b := (38, _, [], _, 3, 22)) (s_callV (W := 0) (cid := 0) (hw _ (List.mem_of_getElem? (i := 17) rfl)) (hw _ (List.mem_of_getElem? (i := 19) rfl)) (hw _ (List.mem_of_getElem? (i := 2) rfl)) (hw _ (List.mem_of_getElem? (i := 21) rfl)) (hw _ (List.mem_of_getElem? (i := 18) rfl)) (hw _ (List.mem_of_getElem? (i := 20) rfl)) (by decide) rfl (lenOf pd4 rfl) at_35 rfl (mclear hw _ _ _ _) rfl rfl (by decide) (by decide) (by decide) (by decide)) ?_
  refine EndsE.st (b := (40, _, _, _, 3, 22)) (s_aload at_38 rfl rfl) ?_
  refine EndsE.st (b := (42, _, _, _, 3, 22)) (s_iload at_40 rfl) ?_
  refine EndsE.st (b := (45, _, [], _, 3, 22)) (s_callV (W := 0) (cid := 0) (hw _ (List.mem_of_getElem? (i := 29) rfl)) (hw _ (List.mem_of_getElem? (i := 31) rfl)) (hw _ (List.mem_of_getElem? (i := 2) rfl)) (hw _ (List.mem_of_getElem? (i := 33) rfl)) (hw _ (List.mem_of_getElem? (i := 30) rfl)) (hw _ (List.mem_of_getElem? (i := 32) rfl)) (by decide) rfl (lenOf pd5 rfl) at_42 rfl (M1) rfl rfl (by decide) (by decide) (by decide) (by decide)) ?_
  refine EndsE.st (b := (47, _, _, _, 3, 22)) (s_aload at_45 rfl rfl) ?_
  refine EndsE.st (b := (49, _, _, _, 3, 22)) (s_iload at_47 rfl) ?_
  refine EndsE.st (b := (52, _, [], _, 3, 22)) (s_callV (W := 0) (cid := 0) (hw _ (List.mem_of_getElem? (i := 29) rfl)) (hw _ (List.mem_of_getElem? (i := 31) rfl)) (hw _ (List.mem_of_getElem? (i := 2) rfl)) (hw _ (List.mem_of_getElem? (i := 33) rfl)) (hw _ (List.mem_of_getElem? (i := 30) rfl)) (hw _ (List.mem_of_getElem? (i := 32) rfl)) (by decide) rfl (lenOf pd5 rfl) at_49 rfl (M2) rfl rfl (by decide) (by decide) (by decide) (by decide)) ?_
  refine EndsE.st (b := (54, _, _, _, 3, 22)) (s_aload at_52 rfl rfl) ?_
  refine EndsE.st (b := (56, _, _, _, 3, 22)) (s_iload at_54 rfl) ?_
  refine EndsE.st (b := (59, _, [], _, 3, 22)) (s_callV (W := 0) (cid := 0) (hw _ (List.mem_of_getElem? (i := 29) rfl)) (hw _ (List.mem_of_getElem? (i := 31) rfl)) (hw _ (List.mem_of_getElem? (i := 2) rfl)) (hw _ (List.mem_of_getElem? (i := 33) rfl)) (hw _ (List.mem_of_getElem? (i := 30) rfl)) (hw _ (List.mem_of_getElem? (i := 32) rfl)) (by decide) rfl (lenOf pd5 rfl) at_56 rfl (M3) rfl rfl (by decide) (by decide) (by decide) (by decide)) ?_
  refine EndsE.st (b := (61, _, _, _, 3, 22)) (s_iload at_59 rfl) ?_
  refine EndsE.st (b := (63, _, _, _, 3, 22)) (s_iload at_61 rfl) ?_
  refine EndsE.st (b := (65, _, _, _, 3, 22)) (s_iload at_63 rfl) ?_
  refine EndsE.st (b := (68, _, [_, _], _, 3, 22)) (s_callS (W := 1) (hw _ (List.mem_of_getElem? (i := 51) rfl)) (hw _ (List.mem_of_getElem? (i := 43) rfl)) (hw _ (List.mem_of_getElem? (i := 44) rfl)) (hw _ (List.mem_of_getElem? (i := 45) rfl)) (by decide) (lenOf pd8 rfl) at_65 (mmin hw _ _) rfl rfl (by decide) (by decide) (by decide) (by decide)) ?_
  refine EndsE.st (b := (71, _, [_], _, 3, 22)) (s_callS (W := 0) (hw _ (List.mem_of_getElem? (i := 51) rfl)) (hw _ (List.mem_of_getElem? (i := 43) rfl)) (hw _ (List.mem_of_getElem? (i := 44) rfl)) (hw _ (List.mem_of_getElem? (i := 45) rfl)) (by decide) (lenOf pd8 rfl) at_68 (mmin hw _ _) rfl rfl (by decide) (by decide) (by decide) (by decide)) ?_
  rw [jmin_of (by omega) (by omega), jmin_of (by omega) (by omega), ← eF]
  refine EndsE.st (b := (73, [_, _, _, _, _, _, _, _, _, _, _, _, _, _, _, _], _, _, 3, 22)) (s_istore at_71 rfl) ?_
  refine EndsE.st (b := (75, _, _, _, 3, 22)) (s_iload at_73 rfl) ?_
  refine EndsE.st (b := (77, _, _, _, 3, 22)) (s_iload at_75 rfl) ?_
  refine EndsE.st (b := (79, _, _, _, 3, 22)) (s_iload at_77 rfl) ?_
  refine EndsE.st (b := (82, _, [_, _], _, 3, 22)) (s_callS (W := 1) (hw _ (List.mem_of_getElem? (i := 52) rfl)) (hw _ (List.mem_of_getElem? (i := 47) rfl)) (hw _ (List.mem_of_getElem? (i := 44) rfl)) (hw _ (List.mem_of_getElem? (i := 48) rfl)) (by decide) (lenOf pd9 rfl) at_79 (mmax hw _ _) rfl rfl (by decide) (by decide) (by decide) (by decide)) ?_
  refine EndsE.st (b := (85, _, [_], _, 3, 22)) (s_callS (W := 0) (hw _ (List.mem_of_getElem? (i := 52) rfl)) (hw _ (List.mem_of_getElem? (i := 47) rfl)) (hw _ (List.mem_of_getElem? (i := 44) rfl)) (hw _ (List.mem_of_getElem? (i := 48) rfl)) (by decide) (lenOf pd9 rfl) at_82 (mmax hw _ _) rfl rfl (by decide) (by decide) (by decide) (by decide)) ?_
  refine EndsE.st (b := (86, _, _, _, 3, 22)) (s_iconst (z := 1) at_85 rfl) ?_
  refine EndsE.st (b := (87, _, _, _, 3, 22)) (s_iadd at_86) ?_
  rw [jmax_of (by omega) (by omega), jmax_of (by omega) (by omega), show Int32.ofNat (max A (max B D)) + 1 = Int32.ofNat (max A (max B D) + 1) from of_add _ 1, ← eE]
  refine EndsE.st (b := (89, [_, _, _, _, _, _, _, _, _, _, _, _, _, _, _, _], _, _, 3, 22)) (s_istore at_87 rfl) ?_
  refine EndsE.st (b := (91, _, _, _, 3, 22)) (s_aload at_89 rfl rfl) ?_
  refine EndsE.st (b := (94, _, [_], _, 3, 22)) (s_callV (W := 0) (cid := 0) (hw _ (List.mem_of_getElem? (i := 53) rfl)) (hw _ (List.mem_of_getElem? (i := 55) rfl)) (hw _ (List.mem_of_getElem? (i := 2) rfl)) (hw _ (List.mem_of_getElem? (i := 57) rfl)) (hw _ (List.mem_of_getElem? (i := 54) rfl)) (hw _ (List.mem_of_getElem? (i := 56) rfl)) (by decide) rfl (lenOf pd10 rfl) at_91 rfl (mcount hw _) rfl rfl (by decide) (by decide) (by decide) (by decide)) ?_
  refine EndsE.st (b := (96, [_, _, _, _, _, _, _, _, _, _, _, _, _, _, _, _], _, _, 3, 22)) (s_istore at_94 rfl) ?_
  refine EndsE.st (b := (98, _, _, _, 3, 22)) (s_iload at_96 rfl) ?_
  refine EndsE.st (b := (99, _, _, _, 3, 22)) (s_iconst (z := 1) at_98 rfl) ?_
  refine EndsE.st (b := (102, _, _, _, 3, 22)) (s_icmp_lt_f at_99 (fun z => by rw [show (1 : Int32) = Int32.ofNat 1 from rfl, lt_of (by omega) (by omega)] at z; omega)) ?_
  refine EndsE.st (b := (104, _, _, _, 3, 22)) (s_iload at_102 rfl) ?_
  refine EndsE.st (b := (105, _, _, _, 3, 22)) (s_iconst (z := 3) at_104 rfl) ?_
  refine EndsE.st (b := (110, _, _, _, 3, 22)) (s_icmp_le_t at_105 (fun z => by rw [show (3 : Int32) = Int32.ofNat 3 from rfl, lt_of (by omega) (by omega)] at z; omega) (by decide) (by decide)) ?_
  refine EndsE.st (b := (112, _, _, _, 3, 22)) (s_aload at_110 rfl rfl) ?_
  refine EndsE.st (b := (113, _, _, _, 3, 22)) (s_iconst (z := 0) at_112 rfl) ?_
  refine EndsE.st (b := (116, _, [_], _, 3, 22)) (s_callV (W := 0) (cid := 0) (hw _ (List.mem_of_getElem? (i := 58) rfl)) (hw _ (List.mem_of_getElem? (i := 60) rfl)) (hw _ (List.mem_of_getElem? (i := 2) rfl)) (hw _ (List.mem_of_getElem? (i := 62) rfl)) (hw _ (List.mem_of_getElem? (i := 59) rfl)) (hw _ (List.mem_of_getElem? (i := 61) rfl)) (by decide) rfl (lenOf pd11 rfl) at_113 rfl (mword hw 0 _ (by decide) v2) rfl rfl (by decide) (by decide) (by decide) (by decide)) ?_
  refine EndsE.st (b := (118, _, _, _, 3, 22)) (s_iload at_116 rfl) ?_
  refine EndsE.st (b := (120, _, _, _, 3, 22)) (s_bipush (z := 6) at_118 (by decide)) ?_
  refine EndsE.st (b := (121, _, _, _, 3, 22)) (s_iushr at_120) ?_
  rw [of_ushr6 (by omega)]
  refine EndsE.st (b := (126, _, _, _, 3, 22)) (s_icmp_eq_t at_121 rfl (by decide) (by decide)) ?_
  refine EndsE.st (b := (127, _, _, _, 3, 22)) (s_iloadN at_126 rfl) ?_
  refine EndsE.st (b := (129, _, _, _, 3, 22)) (s_ldc (hw _ (List.mem_of_getElem? (i := 63) rfl)) at_127) ?_
  refine EndsE.st (b := (130, _, _, _, 3, 22)) (s_iand at_129) ?_
  refine EndsE.st (b := (132, _, _, _, 3, 22)) (s_iload at_130 rfl) ?_
  refine EndsE.st (b := (133, _, _, _, 3, 22)) (s_irem at_132 (of_ne0 (by omega) (by omega))) ?_
  rw [esk, of_rem hsk (by omega) (by omega), ← ej]
  refine EndsE.st (b := (135, [_, _, _, _, _, _, _, _, _, _, _, _, _, _, _, _], _, _, 3, 22)) (s_istore at_133 rfl) ?_
  refine EndsE.st (b := (137, _, _, _, 3, 22)) (s_aload at_135 rfl rfl) ?_
  refine EndsE.st (b := (139, _, _, _, 3, 22)) (s_iload at_137 rfl) ?_
  refine EndsE.st (b := (142, _, [_], _, 3, 22)) (s_callV (W := 0) (cid := 0) (hw _ (List.mem_of_getElem? (i := 58) rfl)) (hw _ (List.mem_of_getElem? (i := 60) rfl)) (hw _ (List.mem_of_getElem? (i := 2) rfl)) (hw _ (List.mem_of_getElem? (i := 62) rfl)) (hw _ (List.mem_of_getElem? (i := 59) rfl)) (hw _ (List.mem_of_getElem? (i := 61) rfl)) (by decide) rfl (lenOf pd11 rfl) at_139 rfl (mword hw j _ (by omega) w2) rfl rfl (by decide) (by decide) (by decide) (by decide)) ?_
  refine EndsE.st (b := (144, [_, _, _, _, _, _, _, _, _, _, _, _, _, _, _, _], _, _, 3, 22)) (s_istore at_142 rfl) ?_
  refine EndsE.st (b := (146, _, _, _, 3, 22)) (s_iload at_144 rfl) ?_
  refine EndsE.st (b := (148, _, _, _, 3, 22)) (s_iload at_146 rfl) ?_
  refine EndsE.st (b := (150, _, _, _, 3, 22)) (s_bipush (z := 6) at_148 (by decide)) ?_
  refine EndsE.st (b := (151, _, _, _, 3, 22)) (s_iushr at_150) ?_
  rw [of_ushr6 (by omega)]
  refine EndsE.icmp_eq (pc' := 176) at_151 (by decide) (by decide) (fun g1_ => ?_) (fun g1_ => ?_)
  · skip
    refine EndsE.st (b := (178, _, _, _, 3, 22)) (s_iload at_176 rfl) ?_
    refine EndsE.st (b := (180, _, _, _, 3, 22)) (s_bipush (z := 6) at_178 (by decide)) ?_
    refine EndsE.st (b := (181, _, _, _, 3, 22)) (s_ishl at_180) ?_
    refine EndsE.st (b := (183, _, _, _, 3, 22)) (s_iload at_181 rfl) ?_
    refine EndsE.st (b := (185, _, _, _, 3, 22)) (s_bipush (z := 63) at_183 (by decide)) ?_
    refine EndsE.st (b := (186, _, _, _, 3, 22)) (s_iand at_185) ?_
    refine EndsE.st (b := (187, _, _, _, 3, 22)) (s_ior at_186) ?_
    rw [of_shl6 (by omega), eo, of_or64 (by omega) ho]
    refine EndsE.st (b := (189, [_, _, _, _, _, _, _, _, _, _, _, _, _, _, _, _], _, _, 3, 22)) (s_istore at_187 rfl) ?_
    refine EndsE.st (b := (191, _, _, _, 3, 22)) (s_iload at_189 rfl) ?_
    refine EndsE.st (b := (193, _, _, _, 3, 22)) (s_iload at_191 rfl) ?_
    refine EndsE.icmp_ge (pc' := 200) at_193 (by decide) (by decide) (fun p1 => ?_) (fun p1 => ?_)
    · skip
      refine EndsE.st (b := (202, _, _, _, 3, 22)) (s_iload at_200 rfl) ?_
      refine EndsE.st (b := (204, _, _, _, 3, 22)) (s_iload at_202 rfl) ?_
      refine EndsE.st (b := (205, _, _, _, 3, 22)) (s_iconst (z := 1) at_204 rfl) ?_
      refine EndsE.st (b := (206, _, _, _, 3, 22)) (s_isub at_205) ?_
      rw [of_sub1 (by omega) (by omega)]
      refine EndsE.icmp_le (pc' := 215) at_206 (by decide) (by decide) (fun p2 => ?_) (fun p2 => ?_)
      · skip
        rw [lt_of (by omega) (by omega)] at p1 p2
        exact tl hw a b d sel off A B D F E w _ j hj k2 I3 hkj (by omega) (by omega) (by omega) (by omega) h0
      · skip
        refine EndsE.st (b := (211, _, _, _, 3, 22)) (s_iload at_209 rfl) ?_
        refine EndsE.st (b := (212, _, _, _, 3, 22)) (s_iconst (z := 1) at_211 rfl) ?_
        refine EndsE.st (b := (213, _, _, _, 3, 22)) (s_isub at_212) ?_
        rw [of_sub1 (by omega) (by omega)]
        refine EndsE.st (b := (215, [_, _, _, _, _, _, _, _, _, _, _, _, _, _, _, _], _, _, 3, 22)) (s_istore at_213 rfl) ?_
        rw [lt_of (by omega) (by omega)] at p1 p2
        exact tl hw a b d sel off A B D F E w _ j hj k2 I3 hkj (by omega) (by omega) (by omega) (by omega) h0
    · skip
      refine EndsE.st (b := (198, _, _, _, 3, 22)) (s_iload at_196 rfl) ?_
      refine EndsE.st (b := (200, [_, _, _, _, _, _, _, _, _, _, _, _, _, _, _, _], _, _, 3, 22)) (s_istore at_198 rfl) ?_
      refine EndsE.st (b := (202, _, _, _, 3, 22)) (s_iload at_200 rfl) ?_
      refine EndsE.st (b := (204, _, _, _, 3, 22)) (s_iload at_202 rfl) ?_
      refine EndsE.st (b := (205, _, _, _, 3, 22)) (s_iconst (z := 1) at_204 rfl) ?_
      refine EndsE.st (b := (206, _, _, _, 3, 22)) (s_isub at_205) ?_
      rw [of_sub1 (by omega) (by omega)]
      refine EndsE.icmp_le (pc' := 215) at_206 (by decide) (by decide) (fun p2 => ?_) (fun p2 => ?_)
      · skip
        rw [lt_of (by omega) (by omega)] at p1 p2
        exact tl hw a b d sel off A B D F E w _ j hj k2 I3 hkj (by omega) (by omega) (by omega) (by omega) h0
      · skip
        refine EndsE.st (b := (211, _, _, _, 3, 22)) (s_iload at_209 rfl) ?_
        refine EndsE.st (b := (212, _, _, _, 3, 22)) (s_iconst (z := 1) at_211 rfl) ?_
        refine EndsE.st (b := (213, _, _, _, 3, 22)) (s_isub at_212) ?_
        rw [of_sub1 (by omega) (by omega)]
        refine EndsE.st (b := (215, [_, _, _, _, _, _, _, _, _, _, _, _, _, _, _, _], _, _, 3, 22)) (s_istore at_213 rfl) ?_
        rw [lt_of (by omega) (by omega)] at p1 p2
        exact tl hw a b d sel off A B D F E w _ j hj k2 I3 hkj (by omega) (by omega) (by omega) (by omega) h0
  · skip
    refine EndsE.st (b := (156, _, _, _, 3, 22)) (s_iload at_154 rfl) ?_
    refine EndsE.st (b := (158, _, _, _, 3, 22)) (s_iload at_156 rfl) ?_
    refine EndsE.st (b := (160, _, _, _, 3, 22)) (s_bipush (z := 6) at_158 (by decide)) ?_
    refine EndsE.st (b := (161, _, _, _, 3, 22)) (s_iushr at_160) ?_
    rw [of_ushr6 (by omega)]
    refine EndsE.icmp_eq (pc' := 176) at_161 (by decide) (by decide) (fun g2_ => ?_) (fun g2_ => ?_)
    · skip
      refine EndsE.st (b := (178, _, _, _, 3, 22)) (s_iload at_176 rfl) ?_
      refine EndsE.st (b := (180, _, _, _, 3, 22)) (s_bipush (z := 6) at_178 (by decide)) ?_
      refine EndsE.st (b := (181, _, _, _, 3, 22)) (s_ishl at_180) ?_
      refine EndsE.st (b := (183, _, _, _, 3, 22)) (s_iload at_181 rfl) ?_
      refine EndsE.st (b := (185, _, _, _, 3, 22)) (s_bipush (z := 63) at_183 (by decide)) ?_
      refine EndsE.st (b := (186, _, _, _, 3, 22)) (s_iand at_185) ?_
      refine EndsE.st (b := (187, _, _, _, 3, 22)) (s_ior at_186) ?_
      rw [of_shl6 (by omega), eo, of_or64 (by omega) ho]
      refine EndsE.st (b := (189, [_, _, _, _, _, _, _, _, _, _, _, _, _, _, _, _], _, _, 3, 22)) (s_istore at_187 rfl) ?_
      refine EndsE.st (b := (191, _, _, _, 3, 22)) (s_iload at_189 rfl) ?_
      refine EndsE.st (b := (193, _, _, _, 3, 22)) (s_iload at_191 rfl) ?_
      refine EndsE.icmp_ge (pc' := 200) at_193 (by decide) (by decide) (fun p1 => ?_) (fun p1 => ?_)
      · skip
        refine EndsE.st (b := (202, _, _, _, 3, 22)) (s_iload at_200 rfl) ?_
        refine EndsE.st (b := (204, _, _, _, 3, 22)) (s_iload at_202 rfl) ?_
        refine EndsE.st (b := (205, _, _, _, 3, 22)) (s_iconst (z := 1) at_204 rfl) ?_
        refine EndsE.st (b := (206, _, _, _, 3, 22)) (s_isub at_205) ?_
        rw [of_sub1 (by omega) (by omega)]
        refine EndsE.icmp_le (pc' := 215) at_206 (by decide) (by decide) (fun p2 => ?_) (fun p2 => ?_)
        · skip
          rw [lt_of (by omega) (by omega)] at p1 p2
          exact tl hw a b d sel off A B D F E w _ j hj k2 I3 hkj (by omega) (by omega) (by omega) (by omega) h0
        · skip
          refine EndsE.st (b := (211, _, _, _, 3, 22)) (s_iload at_209 rfl) ?_
          refine EndsE.st (b := (212, _, _, _, 3, 22)) (s_iconst (z := 1) at_211 rfl) ?_
          refine EndsE.st (b := (213, _, _, _, 3, 22)) (s_isub at_212) ?_
          rw [of_sub1 (by omega) (by omega)]
          refine EndsE.st (b := (215, [_, _, _, _, _, _, _, _, _, _, _, _, _, _, _, _], _, _, 3, 22)) (s_istore at_213 rfl) ?_
          rw [lt_of (by omega) (by omega)] at p1 p2
          exact tl hw a b d sel off A B D F E w _ j hj k2 I3 hkj (by omega) (by omega) (by omega) (by omega) h0
      · skip
        refine EndsE.st (b := (198, _, _, _, 3, 22)) (s_iload at_196 rfl) ?_
        refine EndsE.st (b := (200, [_, _, _, _, _, _, _, _, _, _, _, _, _, _, _, _], _, _, 3, 22)) (s_istore at_198 rfl) ?_
        refine EndsE.st (b := (202, _, _, _, 3, 22)) (s_iload at_200 rfl) ?_
        refine EndsE.st (b := (204, _, _, _, 3, 22)) (s_iload at_202 rfl) ?_
        refine EndsE.st (b := (205, _, _, _, 3, 22)) (s_iconst (z := 1) at_204 rfl) ?_
        refine EndsE.st (b := (206, _, _, _, 3, 22)) (s_isub at_205) ?_
        rw [of_sub1 (by omega) (by omega)]
        refine EndsE.icmp_le (pc' := 215) at_206 (by decide) (by decide) (fun p2 => ?_) (fun p2 => ?_)
        · skip
          rw [lt_of (by omega) (by omega)] at p1 p2
          exact tl hw a b d sel off A B D F E w _ j hj k2 I3 hkj (by omega) (by omega) (by omega) (by omega) h0
        · skip
          refine EndsE.st (b := (211, _, _, _, 3, 22)) (s_iload at_209 rfl) ?_
          refine EndsE.st (b := (212, _, _, _, 3, 22)) (s_iconst (z := 1) at_211 rfl) ?_
          refine EndsE.st (b := (213, _, _, _, 3, 22)) (s_isub at_212) ?_
          rw [of_sub1 (by omega) (by omega)]
          refine EndsE.st (b := (215, [_, _, _, _, _, _, _, _, _, _, _, _, _, _, _, _], _, _, 3, 22)) (s_istore at_213 rfl) ?_
          rw [lt_of (by omega) (by omega)] at p1 p2
          exact tl hw a b d sel off A B D F E w _ j hj k2 I3 hkj (by omega) (by omega) (by omega) (by omega) h0
    · skip
      refine EndsE.st (b := (166, _, _, _, 3, 22)) (s_iload at_164 rfl) ?_
      refine EndsE.st (b := (168, _, _, _, 3, 22)) (s_iload at_166 rfl) ?_
      refine EndsE.st (b := (170, _, _, _, 3, 22)) (s_bipush (z := 6) at_168 (by decide)) ?_
      refine EndsE.st (b := (171, _, _, _, 3, 22)) (s_iushr at_170) ?_
      rw [of_ushr6 (by omega)]
      refine EndsE.icmp_eq (pc' := 176) at_171 (by decide) (by decide) (fun g3_ => ?_) (fun g3_ => ?_)
      · skip
        refine EndsE.st (b := (178, _, _, _, 3, 22)) (s_iload at_176 rfl) ?_
        refine EndsE.st (b := (180, _, _, _, 3, 22)) (s_bipush (z := 6) at_178 (by decide)) ?_
        refine EndsE.st (b := (181, _, _, _, 3, 22)) (s_ishl at_180) ?_
        refine EndsE.st (b := (183, _, _, _, 3, 22)) (s_iload at_181 rfl) ?_
        refine EndsE.st (b := (185, _, _, _, 3, 22)) (s_bipush (z := 63) at_183 (by decide)) ?_
        refine EndsE.st (b := (186, _, _, _, 3, 22)) (s_iand at_185) ?_
        refine EndsE.st (b := (187, _, _, _, 3, 22)) (s_ior at_186) ?_
        rw [of_shl6 (by omega), eo, of_or64 (by omega) ho]
        refine EndsE.st (b := (189, [_, _, _, _, _, _, _, _, _, _, _, _, _, _, _, _], _, _, 3, 22)) (s_istore at_187 rfl) ?_
        refine EndsE.st (b := (191, _, _, _, 3, 22)) (s_iload at_189 rfl) ?_
        refine EndsE.st (b := (193, _, _, _, 3, 22)) (s_iload at_191 rfl) ?_
        refine EndsE.icmp_ge (pc' := 200) at_193 (by decide) (by decide) (fun p1 => ?_) (fun p1 => ?_)
        · skip
          refine EndsE.st (b := (202, _, _, _, 3, 22)) (s_iload at_200 rfl) ?_
          refine EndsE.st (b := (204, _, _, _, 3, 22)) (s_iload at_202 rfl) ?_
          refine EndsE.st (b := (205, _, _, _, 3, 22)) (s_iconst (z := 1) at_204 rfl) ?_
          refine EndsE.st (b := (206, _, _, _, 3, 22)) (s_isub at_205) ?_
          rw [of_sub1 (by omega) (by omega)]
          refine EndsE.icmp_le (pc' := 215) at_206 (by decide) (by decide) (fun p2 => ?_) (fun p2 => ?_)
          · skip
            rw [lt_of (by omega) (by omega)] at p1 p2
            exact tl hw a b d sel off A B D F E w _ j hj k2 I3 hkj (by omega) (by omega) (by omega) (by omega) h0
          · skip
            refine EndsE.st (b := (211, _, _, _, 3, 22)) (s_iload at_209 rfl) ?_
            refine EndsE.st (b := (212, _, _, _, 3, 22)) (s_iconst (z := 1) at_211 rfl) ?_
            refine EndsE.st (b := (213, _, _, _, 3, 22)) (s_isub at_212) ?_
            rw [of_sub1 (by omega) (by omega)]
            refine EndsE.st (b := (215, [_, _, _, _, _, _, _, _, _, _, _, _, _, _, _, _], _, _, 3, 22)) (s_istore at_213 rfl) ?_
            rw [lt_of (by omega) (by omega)] at p1 p2
            exact tl hw a b d sel off A B D F E w _ j hj k2 I3 hkj (by omega) (by omega) (by omega) (by omega) h0
        · skip
          refine EndsE.st (b := (198, _, _, _, 3, 22)) (s_iload at_196 rfl) ?_
          refine EndsE.st (b := (200, [_, _, _, _, _, _, _, _, _, _, _, _, _, _, _, _], _, _, 3, 22)) (s_istore at_198 rfl) ?_
          refine EndsE.st (b := (202, _, _, _, 3, 22)) (s_iload at_200 rfl) ?_
          refine EndsE.st (b := (204, _, _, _, 3, 22)) (s_iload at_202 rfl) ?_
          refine EndsE.st (b := (205, _, _, _, 3, 22)) (s_iconst (z := 1) at_204 rfl) ?_
          refine EndsE.st (b := (206, _, _, _, 3, 22)) (s_isub at_205) ?_
          rw [of_sub1 (by omega) (by omega)]
          refine EndsE.icmp_le (pc' := 215) at_206 (by decide) (by decide) (fun p2 => ?_) (fun p2 => ?_)
          · skip
            rw [lt_of (by omega) (by omega)] at p1 p2
            exact tl hw a b d sel off A B D F E w _ j hj k2 I3 hkj (by omega) (by omega) (by omega) (by omega) h0
          · skip
            refine EndsE.st (b := (211, _, _, _, 3, 22)) (s_iload at_209 rfl) ?_
            refine EndsE.st (b := (212, _, _, _, 3, 22)) (s_iconst (z := 1) at_211 rfl) ?_
            refine EndsE.st (b := (213, _, _, _, 3, 22)) (s_isub at_212) ?_
            rw [of_sub1 (by omega) (by omega)]
            refine EndsE.st (b := (215, [_, _, _, _, _, _, _, _, _, _, _, _, _, _, _, _], _, _, 3, 22)) (s_istore at_213 rfl) ?_
            rw [lt_of (by omega) (by omega)] at p1 p2
            exact tl hw a b d sel off A B D F E w _ j hj k2 I3 hkj (by omega) (by omega) (by omega) (by omega) h0
      · skip
        exact absurd hmem (by rw [eq_of (by omega) (by omega)] at g1_ g2_ g3_; omega)
set_option maxRecDepth 65536 in
set_option maxHeartbeats 40000000 in
theorem comes_1 {Post : Tables → Env → Array Value → State → Outcome → State → Prop} (hpost : ∀ tb e args s v u, (limb_1_1.after args s (.returned v) u = true ∧ limb_1_2.after args s (.returned v) u = true ∧ True) → FrameEnd s (.returned v) u (Jvm.fieldLocs frame_1_writes args s ++ Jvm.arrayLocs frame_1_arrays args s ++ Jvm.staticLocs frame_1_statics s) 16 128 → Post tb e args s (.returned v) u) :
    ArmFor flags0 classFile x code maxLocals ret World_1 tables_1 room_1 Calls_1 rest_1 Pre_1 Post := by
  intro l hfl _ _ p e ha hc hk s m args below hf hA hF happ hP
  obtain ⟨hcalls, hrest, hpre⟩ := hP
  obtain ⟨-, -, -, hnamed, -, -, -, hat⟩ := (Spec.applies_iff hf).mp happ
  obtain ⟨hg, hn⟩ := and_e (Cond.before_iff.mp (show (Jvm.Cond.and given_1 narrow_1).before args s = true from hpre))
  obtain ⟨g0, gg1⟩ := and_e hg
  obtain ⟨g1, gg2⟩ := and_e gg1
  obtain ⟨g2, gg3⟩ := and_e gg2
  obtain ⟨g3, gg4⟩ := and_e gg3
  obtain ⟨g4, gg5⟩ := and_e gg4
  obtain ⟨w0, w1, w2, w3, w4, rfl⟩ : ∃ w0 w1 w2 w3 w4 : Value, args = #[w0, w1, w2, w3, w4] := by
    have hs : args.size = 5 := by simpa [Cond.value, given_1] using g0
    obtain ⟨L⟩ := args
    match L, hs with
    | [w0, w1, w2, w3, w4], _ => exact ⟨w0, w1, w2, w3, w4, rfl⟩
  have hw := fun d (hd : d ∈ tables_1) => atoms_spec (ws := Jvm.Cond.code x code maxLocals ret :: tables_1) hat d (List.mem_cons_of_mem _ hd)
  obtain ⟨i0, ei0⟩ := is_v g1
  obtain rfl : w0 = (.int i0) := Option.some.inj ei0
  obtain ⟨i1, ei1⟩ := is_v g2
  obtain rfl : w1 = (.int i1) := Option.some.inj ei1
  obtain ⟨i2, ei2⟩ := is_v g3
  obtain rfl : w2 = (.int i2) := Option.some.inj ei2
  obtain ⟨i3, ei3⟩ := is_v g4
  obtain rfl : w3 = (.int i3) := Option.some.inj ei3
  obtain ⟨i4, ei4⟩ := is_v gg5
  obtain rfl : w4 = (.int i4) := Option.some.inj ei4
  obtain ⟨A2, hM⟩ := law_ok (l := l) hw (ρ := (fun k => s.heap.size + k, fun _ => 0)) i0 i1 i2 i3 i4
  obtain ⟨n, o, h1, h2, h3, v', L, rfl, ⟨rfl, N, -⟩, hq⟩ := hM s.heap ⟨⟨rfl, fun k _ => rfl, fun j k h => Nat.add_lt_add_left h _⟩, fun k c h => by simp at h⟩ p e ha hc hk s m _ below hf ((Spec.applies_iff_loose hf).mp happ).1 ⟨rfl, State.Warmed39.refl s, rfl⟩ trivial
  refine ⟨n, _, h1, h2, h3, hpost _ _ _ _ _ _ ⟨Cond.after_iff.mpr rfl, Cond.after_iff.mpr (eq_i res_at (Term.int_eval (1)) rfl), trivial⟩ ⟨hq.1, hq.2.1, (hq.2.2.sift fun y hy => Or.inr (N y hy)).mono (by decide) (by decide)⟩⟩
theorem main_1_1 : Claimed_1_1 := comes_1 fun _ _ _ _ _ _ h hF => ⟨h.1, hF⟩
theorem main_1_2 : Claimed_1_2 := comes_1 fun _ _ _ _ _ _ h hF => ⟨h.2.1, hF⟩
end Jvm.Pilot.@@N@@
namespace Jvm.Pilot.@@N@@
open Jvm Jvm.ClassFile Sem Op Lib Jvm.Free Jvm.Stand Jvm.Pilot.@@N@@.Jvm.D
/-! MADE BY PROGRAM (witnessworld.py) out of the Statement's table words and the real class files: 10 classes; the members and pool entries that the words name. The judged class is class 1, her method 1. -/
namespace start1
open Jvm.ClassFile
def u (s : String) : CpInfo := .utf8 (stringToUtf16 s)
/-- a pool by its gaps: so many unusable entries, then the entry; so many at the end -/
def gap : Nat → List CpInfo → List CpInfo
  | 0, r => r
  | n + 1, r => .unusable :: gap n r
def poolList (es : List (Nat × CpInfo)) (last : Nat) : List CpInfo := es.foldr (fun e r => gap e.1 (e.2 :: r)) (gap last [])
def pool (es : List (Nat × CpInfo)) (last : Nat) : Array CpInfo := ⟨poolList es last⟩
def fileOf (pool : Array CpInfo) (this : Nat) (attrs : Array Attribute := #[]) (ms : Array MethodInfo := #[]) (fl : Nat := 33) (sup : Nat := 0) (ifs : Array Nat := #[]) (fds : Array FieldInfo := #[]) : ClassFile where
  minorVersion := 0
  majorVersion := 65
  constantPool := pool
  accessFlags := fl
  thisClass := this
  superClass := sup
  interfaces := ifs
  fields := fds
  methods := ms
  attributes := attrs
def plain (name : String) (sup : Option ClassId) : Class where
  name := name
  kind := .ordinary
  loader := none
  accessFlags := 33
  super := sup
  interfaces := #[]
  cf := none
  fields := #[]
  methods := #[]
  instanceTypes := #[]
  staticTypes := #[]
  resolved := #[]
  callSites := []
  init := .initialized
  statics := none
  mirror := none

def pool0 : Array CpInfo := pool [(5, u "<init>"), (0, u "()V"), (1, .class_ 10), (1, u "java/lang/Object")] 113

def k0c0 : Code := { maxStack := 0, maxLocals := 1, code := object_method_1_code, exceptionTable := #[], attributes := #[] }
def k0m0 : Method := { name := "<init>", desc := "()V", sig := { parameters := [], returnType := none }, accessFlags := 1, code := some k0c0 }
/-- java/lang/Object -/
def k0 : Class := { plain "java/lang/Object" none with
  accessFlags := 33
  interfaces := #[]
  cf := some (fileOf pool0 8 #[] #[{ accessFlags := 1, nameIndex := 5, descriptorIndex := 6, attributes := #[] }] 33 0 #[] #[])
  fields := #[]
  methods := #[k0m0]
  instanceTypes := #[]
  staticTypes := #[]
  resolved := Array.replicate 124 none
  statics := none }

def pool1 : Array CpInfo := pool [(2, .class_ 4), (1, u "java/lang/Object"), (0, u "<init>"), (0, u "()V"), (0, .class_ 8), (0, u "com/example/honeyguide/honeyguide/service/Region"), (0, .methodref 7 10), (0, .nameAndType 5 11), (0, u "(I)V"), (0, .methodref 7 13), (0, .nameAndType 14 6), (0, u "clear"), (0, .methodref 7 16), (0, .nameAndType 17 11), (0, u "add"), (0, .methodref 19 20), (0, .class_ 21), (0, .nameAndType 22 23), (0, u "java/lang/Math"), (0, u "min"), (0, u "(II)I"), (0, .methodref 19 25), (0, .nameAndType 26 23), (0, u "max"), (0, .methodref 7 28), (0, .nameAndType 29 30), (0, u "wordCount"), (0, u "()I"), (0, .methodref 7 32), (0, .nameAndType 33 34), (0, u "word"), (0, u "(I)I"), (0, .integer 2147483647), (0, .methodref 7 37), (0, .nameAndType 38 34), (0, u "position"), (0, .class_ 40), (0, u "com/example/honeyguide/honeyguide/service/RegionPositionPinLaw"), (2, u "law"), (0, u "(IIIII)Z")] 3

def k1m0 : Method := { name := "<init>", desc := "()V", sig := { parameters := [], returnType := none }, accessFlags := 1, code := none }
def k1c1 : Code := { maxStack := 3, maxLocals := 16, code := code, exceptionTable := #[], attributes := #[] }
def k1m1 : Method := { name := "law", desc := "(IIIII)Z", sig := { parameters := [.int, .int, .int, .int, .int], returnType := some .boolean }, accessFlags := 9, code := some k1c1 }
/-- com/example/honeyguide/honeyguide/service/RegionPositionPinLaw -/
def k1 : Class := { plain "com/example/honeyguide/honeyguide/service/RegionPositionPinLaw" (some 0) with
  accessFlags := 49
  interfaces := #[]
  cf := some (fileOf pool1 39 #[] #[{ accessFlags := 1, nameIndex := 5, descriptorIndex := 6, attributes := #[] }, { accessFlags := 9, nameIndex := 43, descriptorIndex := 44, attributes := #[] }] 49 2 #[] #[])
  fields := #[]
  methods := #[k1m0, k1m1]
  instanceTypes := #[]
  staticTypes := #[]
  resolved := Array.replicate 48 none
  statics := none }

def pool2 : Array CpInfo := pool [(1, .methodref 2 3), (0, .class_ 4), (0, .nameAndType 5 6), (0, u "java/lang/Object"), (0, u "<init>"), (0, u "()V"), (0, .methodref 8 9), (0, .class_ 10), (0, .nameAndType 11 12), (0, u "com/example/honeyguide/honeyguide/service/Region"), (0, u "words"), (0, u "(I)I"), (0, .fieldref 8 14), (0, .nameAndType 11 15), (0, u "[I"), (0, .fieldref 8 17), (0, .nameAndType 18 15), (0, u "indexOf"), (2, .fieldref 8 22), (0, .nameAndType 23 24), (0, u "count"), (0, u "I"), (0, .methodref 8 26), (0, .nameAndType 27 28), (0, u "putWord"), (0, u "(II)V"), (0, .fieldref 8 30), (0, .nameAndType 31 24), (0, u "first"), (0, .fieldref 8 33), (0, .nameAndType 34 24), (0, u "end"), (0, .fieldref 8 36), (0, .nameAndType 37 38), (0, u "gapless"), (0, u "Z"), (2, .integer 2147483647), (0, .methodref 8 43), (0, .nameAndType 44 45), (0, u "holdsWord"), (0, u "(I)Z"), (0, .methodref 47 48), (0, .class_ 49), (0, .nameAndType 50 51), (0, u "java/lang/Math"), (0, u "min"), (0, u "(II)I"), (0, .methodref 47 53), (0, .nameAndType 54 51), (0, u "max"), (11, u "()I"), (4, u "(I)V"), (4, u "clear"), (0, u "add"), (0, u "wordCount"), (0, u "word"), (7, u "position")] 6

def k2c0 : Code := { maxStack := 2, maxLocals := 2, code := prog_104_method_1_code, exceptionTable := #[], attributes := #[] }
def k2m0 : Method := { name := "<init>", desc := "(I)V", sig := { parameters := [.int], returnType := none }, accessFlags := 0, code := some k2c0 }
def k2c1 : Code := { maxStack := 2, maxLocals := 1, code := prog_104_method_2_code, exceptionTable := #[], attributes := #[] }
def k2m1 : Method := { name := "words", desc := "(I)I", sig := { parameters := [.int], returnType := some .int }, accessFlags := 8, code := some k2c1 }
def k2c2 : Code := { maxStack := 2, maxLocals := 1, code := prog_104_method_4_code, exceptionTable := #[], attributes := #[] }
def k2m2 : Method := { name := "clear", desc := "()V", sig := { parameters := [], returnType := none }, accessFlags := 0, code := some k2c2 }
def k2c3 : Code := { maxStack := 6, maxLocals := 3, code := prog_104_method_5_code, exceptionTable := #[], attributes := #[] }
def k2m3 : Method := { name := "add", desc := "(I)V", sig := { parameters := [.int], returnType := none }, accessFlags := 0, code := some k2c3 }
def k2c4 : Code := { maxStack := 3, maxLocals := 3, code := prog_104_method_6_code, exceptionTable := #[], attributes := #[] }
def k2m4 : Method := { name := "putWord", desc := "(II)V", sig := { parameters := [.int, .int], returnType := none }, accessFlags := 2, code := some k2c4 }
def k2c5 : Code := { maxStack := 1, maxLocals := 1, code := prog_104_method_7_code, exceptionTable := #[], attributes := #[] }
def k2m5 : Method := { name := "wordCount", desc := "()I", sig := { parameters := [], returnType := some .int }, accessFlags := 0, code := some k2c5 }
def k2c6 : Code := { maxStack := 2, maxLocals := 2, code := prog_104_method_8_code, exceptionTable := #[], attributes := #[] }
def k2m6 : Method := { name := "word", desc := "(I)I", sig := { parameters := [.int], returnType := some .int }, accessFlags := 0, code := some k2c6 }
def k2c7 : Code := { maxStack := 2, maxLocals := 3, code := prog_104_method_12_code, exceptionTable := #[], attributes := #[] }
def k2m7 : Method := { name := "holdsWord", desc := "(I)Z", sig := { parameters := [.int], returnType := some .boolean }, accessFlags := 2, code := some k2c7 }
def k2c8 : Code := { maxStack := 3, maxLocals := 3, code := prog_104_method_17_code, exceptionTable := #[], attributes := #[] }
def k2m8 : Method := { name := "position", desc := "(I)I", sig := { parameters := [.int], returnType := some .int }, accessFlags := 0, code := some k2c8 }
/-- com/example/honeyguide/honeyguide/service/Region -/
def k2 : Class := { plain "com/example/honeyguide/honeyguide/service/Region" (some 0) with
  accessFlags := 32
  interfaces := #[]
  cf := some (fileOf pool2 8 #[] #[{ accessFlags := 0, nameIndex := 5, descriptorIndex := 71, attributes := #[] }, { accessFlags := 8, nameIndex := 11, descriptorIndex := 12, attributes := #[] }, { accessFlags := 0, nameIndex := 76, descriptorIndex := 6, attributes := #[] }, { accessFlags := 0, nameIndex := 77, descriptorIndex := 71, attributes := #[] }, { accessFlags := 2, nameIndex := 27, descriptorIndex := 28, attributes := #[] }, { accessFlags := 0, nameIndex := 78, descriptorIndex := 66, attributes := #[] }, { accessFlags := 0, nameIndex := 79, descriptorIndex := 12, attributes := #[] }, { accessFlags := 2, nameIndex := 44, descriptorIndex := 45, attributes := #[] }, { accessFlags := 0, nameIndex := 87, descriptorIndex := 12, attributes := #[] }] 32 2 #[] #[{ accessFlags := 18, nameIndex := 11, descriptorIndex := 15, attributes := #[] }, { accessFlags := 18, nameIndex := 18, descriptorIndex := 15, attributes := #[] }, { accessFlags := 2, nameIndex := 23, descriptorIndex := 24, attributes := #[] }, { accessFlags := 2, nameIndex := 37, descriptorIndex := 38, attributes := #[] }, { accessFlags := 2, nameIndex := 31, descriptorIndex := 24, attributes := #[] }, { accessFlags := 2, nameIndex := 34, descriptorIndex := 24, attributes := #[] }])
  fields := #[{ name := "words", type := (.array .int), accessFlags := 18, slot := 0, constantValue := 0 }, { name := "indexOf", type := (.array .int), accessFlags := 18, slot := 1, constantValue := 0 }, { name := "count", type := .int, accessFlags := 2, slot := 2, constantValue := 0 }, { name := "gapless", type := .boolean, accessFlags := 2, slot := 3, constantValue := 0 }, { name := "first", type := .int, accessFlags := 2, slot := 4, constantValue := 0 }, { name := "end", type := .int, accessFlags := 2, slot := 5, constantValue := 0 }]
  methods := #[k2m0, k2m1, k2m2, k2m3, k2m4, k2m5, k2m6, k2m7, k2m8]
  instanceTypes := #[(.array .int), (.array .int), .int, .boolean, .int, .int]
  staticTypes := #[]
  resolved := Array.replicate 94 none
  statics := none }

def pool3 : Array CpInfo := pool [(1, .class_ 2), (0, u "java/lang/Math"), (1, .class_ 6), (1, u "java/lang/Object"), (0, u "<init>"), (0, u "()V"), (89, .class_ 100), (1, u "java/lang/Math$RandomNumberGeneratorHolder"), (71, u "negativeZeroFloatBits"), (0, u "J"), (2, u "negativeZeroDoubleBits"), (21, u "max"), (2, u "min"), (43, u "$assertionsDisabled"), (0, u "Z"), (88, u "(II)I"), (2, u "twoToTheDoubleScaleDown"), (0, u "D"), (4, u "twoToTheDoubleScaleUp"), (9, u "E"), (3, u "PI"), (2, u "TAU"), (2, u "DEGREES_TO_RADIANS"), (0, u "RADIANS_TO_DEGREES")] 94

def k3m0 : Method := { name := "<init>", desc := "()V", sig := { parameters := [], returnType := none }, accessFlags := 2, code := none }
def k3c1 : Code := { maxStack := 2, maxLocals := 2, code := jdk_29_method_65_code, exceptionTable := #[], attributes := #[] }
def k3m1 : Method := { name := "max", desc := "(II)I", sig := { parameters := [.int, .int], returnType := some .int }, accessFlags := 9, code := some k3c1 }
def k3c2 : Code := { maxStack := 2, maxLocals := 2, code := jdk_29_method_69_code, exceptionTable := #[], attributes := #[] }
def k3m2 : Method := { name := "min", desc := "(II)I", sig := { parameters := [.int, .int], returnType := some .int }, accessFlags := 9, code := some k3c2 }
/-- java/lang/Math -/
def k3 : Class := { plain "java/lang/Math" (some 0) with
  accessFlags := 49
  interfaces := #[]
  cf := some (fileOf pool3 1 #[.nestMembers #[98]] #[{ accessFlags := 2, nameIndex := 7, descriptorIndex := 8, attributes := #[] }, { accessFlags := 9, nameIndex := 198, descriptorIndex := 335, attributes := #[] }, { accessFlags := 9, nameIndex := 201, descriptorIndex := 335, attributes := #[] }] 49 4 #[] #[{ accessFlags := 25, nameIndex := 354, descriptorIndex := 339, attributes := #[] }, { accessFlags := 25, nameIndex := 358, descriptorIndex := 339, attributes := #[] }, { accessFlags := 25, nameIndex := 361, descriptorIndex := 339, attributes := #[] }, { accessFlags := 26, nameIndex := 364, descriptorIndex := 339, attributes := #[] }, { accessFlags := 26, nameIndex := 365, descriptorIndex := 339, attributes := #[] }, { accessFlags := 26, nameIndex := 172, descriptorIndex := 173, attributes := #[] }, { accessFlags := 26, nameIndex := 176, descriptorIndex := 173, attributes := #[] }, { accessFlags := 8, nameIndex := 344, descriptorIndex := 339, attributes := #[] }, { accessFlags := 8, nameIndex := 338, descriptorIndex := 339, attributes := #[] }, { accessFlags := 4120, nameIndex := 245, descriptorIndex := 246, attributes := #[] }])
  fields := #[{ name := "E", type := .double, accessFlags := 25, slot := 0, constantValue := 0 }, { name := "PI", type := .double, accessFlags := 25, slot := 1, constantValue := 0 }, { name := "TAU", type := .double, accessFlags := 25, slot := 2, constantValue := 0 }, { name := "DEGREES_TO_RADIANS", type := .double, accessFlags := 26, slot := 3, constantValue := 0 }, { name := "RADIANS_TO_DEGREES", type := .double, accessFlags := 26, slot := 4, constantValue := 0 }, { name := "negativeZeroFloatBits", type := .long, accessFlags := 26, slot := 5, constantValue := 0 }, { name := "negativeZeroDoubleBits", type := .long, accessFlags := 26, slot := 6, constantValue := 0 }, { name := "twoToTheDoubleScaleUp", type := .double, accessFlags := 8, slot := 7, constantValue := 0 }, { name := "twoToTheDoubleScaleDown", type := .double, accessFlags := 8, slot := 8, constantValue := 0 }, { name := "$assertionsDisabled", type := .boolean, accessFlags := 4120, slot := 9, constantValue := 0 }]
  methods := #[k3m0, k3m1, k3m2]
  instanceTypes := #[]
  staticTypes := #[.double, .double, .double, .double, .double, .long, .long, .double, .double, .boolean]
  resolved := Array.replicate 460 none
  statics := none }

def pool4 : Array CpInfo := pool [(1, u "java/lang/Cloneable"), (0, .class_ 1), (0, u "java/lang/Object"), (0, .class_ 3)] 3

/-- java/lang/Cloneable -/
def k4 : Class := { plain "java/lang/Cloneable" (some 0) with
  accessFlags := 1537
  interfaces := #[]
  cf := some (fileOf pool4 2 #[] #[] 1537 4 #[] #[])
  fields := #[]
  methods := #[]
  instanceTypes := #[]
  staticTypes := #[]
  resolved := Array.replicate 8 none
  statics := none }

def pool5 : Array CpInfo := pool [(1, u "java/io/Serializable"), (0, .class_ 1), (0, u "java/lang/Object"), (0, .class_ 3)] 3

/-- java/io/Serializable -/
def k5 : Class := { plain "java/io/Serializable" (some 0) with
  accessFlags := 1537
  interfaces := #[]
  cf := some (fileOf pool5 2 #[] #[] 1537 4 #[] #[])
  fields := #[]
  methods := #[]
  instanceTypes := #[]
  staticTypes := #[]
  resolved := Array.replicate 8 none
  statics := none }

/-- the primitive byte -/
def k6 : Class := { plain "byte" none with kind := .primitive 'B', accessFlags := 0x411 }
/-- [B -/
def k7 : Class := { plain "[B" (some 0) with kind := .array 6 .byte, interfaces := #[4, 5], accessFlags := 1041 }

/-- the primitive int -/
def k8 : Class := { plain "int" none with kind := .primitive 'I', accessFlags := 0x411 }
/-- [I -/
def k9 : Class := { plain "[I" (some 0) with kind := .array 8 .int, interfaces := #[4, 5], accessFlags := 1041 }

def heap : Heap := #[]
def classes : Array Class := #[k0, k1, k2, k3, k4, k5, k6, k7, k8, k9]
def interned : List (Array UInt16 × Addr) := []
def slotsUsed : Nat := 0
def theMethod : MethodId := ⟨1, 1⟩
def args0 : Array Value := #[.int 70, .int 3, .int 500, .int 7, .int 8]
def aboutOver (below : List Frame) : State where
  vm := { classes := classes, interned := interned.toArray }
  heap := heap
  slotsUsed := slotsUsed
  threads := #[{ frames := .invoking theMethod args0 :: below }]
def below0 : List Frame := [.native { method := ⟨0, 0⟩, args := #[] }]
def about1 : State := aboutOver below0
def p0 : Program := .bare "" "" ""
def e0 : Env := launch0.env 0 0 0
theorem w_frames : about1.frames = Frame.invoking theMethod args0 :: below0 := rfl
set_option maxRecDepth 65536 in
theorem w_args : argsFit about1.vm theMethod args0 = true := by decide +kernel
set_option maxRecDepth 65536 in
theorem w_heap : heapFits about1 = true := by decide +kernel
set_option maxRecDepth 65536 in
theorem w_runnable : about1.curStatus? = some .runnable := by decide +kernel
set_option maxRecDepth 65536 in
theorem w_alone : about1.alone = true := by decide +kernel
set_option maxRecDepth 65536 in
theorem w_named : about1.methodNamed? x = some theMethod := by decide +kernel
set_option maxRecDepth 65536 in
theorem w_hears : about1.hears theMethod below0 = true := by decide +kernel
set_option maxRecDepth 65536 in
theorem w_ripe : about1.ripe theMethod args0 below0 = true := by decide +kernel
theorem w_running : about1.status = .running := rfl
set_option maxRecDepth 65536 in
theorem w_room : about1.hasRoom e0.platform room_1 = true :=
  launch0.hasRoom_least _ room_1 (by decide +kernel) (by decide +kernel) (by decide +kernel) (by decide +kernel) (by decide +kernel) (by decide +kernel)
theorem allAtoms_all (ts : List Jvm.Cond) (a : Array Jvm.Value) (st : Jvm.State) : (allAtoms ts).before a st = ts.all (fun c => c.before a st) := by
  induction ts with
  | nil => rfl
  | cons c t ih =>
    show (Jvm.Cond.and c (allAtoms t)).before a st = _
    rw [Jvm.Cond.before_and, ih, List.all_cons]
def words1 : List Jvm.Cond := Jvm.Cond.code x code maxLocals ret :: tables_1
/-- a 'code' word, met by the world's own term for the bytes: nothing is compared byte by byte -/
theorem code_word {y : MethodName} {bytes : ByteArray} {mx : Nat} {rt : Option FieldType} {a : Array Value} {s : State} {m : MethodId} {meth : Method} {c : Code} (h1 : s.methodNamed? y = some m) (h2 : s.vm.method? m = some meth) (h3 : meth.code = some c) (h4 : c.code = bytes)
    (h5 : (c.maxLocals == mx && c.exceptionTable.isEmpty && decide (c.maxStack ≤ mostOperands) && decide (meth.sig.returnType = rt) && !meth.locks && decide (parseMethodDescriptor y.desc = some meth.sig)) = true) : (Jvm.Cond.code y bytes mx rt).before a s = true := by
  simp only [Bool.and_eq_true, beq_iff_eq, Bool.not_eq_true', decide_eq_true_eq] at h5
  obtain ⟨⟨⟨⟨⟨g1, g2⟩, g3⟩, g4⟩, g5⟩, g6⟩ := h5
  simp [Cond.before, Cond.holds, Cond.value, h1, h2, h3, h4, g1, g2, g3, g4, g5, g6]
def isCode : Jvm.Cond → Bool
  | .code _ _ _ _ => true
  | _ => false
theorem all_split {L : List Jvm.Cond} {P : Jvm.Cond → Bool} (h1 : L.all (fun c => isCode c || P c) = true) (h2 : ∀ c ∈ L.filter isCode, P c = true) : L.all P = true := by
  refine List.all_eq_true.mpr fun c hc => ?_
  have h := List.all_eq_true.mp h1 c hc
  rcases Bool.eq_false_or_eq_true (isCode c) with hi | hi
  · exact h2 c (List.mem_filter.mpr ⟨hc, hi⟩)
  · simpa [hi] using h
set_option maxRecDepth 65536 in
theorem w_c0 : (Jvm.Cond.code x code maxLocals ret).before args0 about1 = true := code_word (m := ⟨1, 1⟩) (meth := k1m1) (c := k1c1) (by decide +kernel) rfl rfl rfl (by decide +kernel)
set_option maxRecDepth 65536 in
theorem w_c1 : (Jvm.Cond.code ({ cls := "com/example/honeyguide/honeyguide/service/Region", name := "<init>", desc := "(I)V" } : Jvm.MethodName) prog_104_method_1_code (2 : Nat) (Option.none : Option Jvm.ClassFile.FieldType)).before args0 about1 = true := code_word (m := ⟨2, 0⟩) (meth := k2m0) (c := k2c0) (by decide +kernel) rfl rfl rfl (by decide +kernel)
set_option maxRecDepth 65536 in
theorem w_c2 : (Jvm.Cond.code ({ cls := "java/lang/Object", name := "<init>", desc := "()V" } : Jvm.MethodName) object_method_1_code (1 : Nat) (Option.none : Option Jvm.ClassFile.FieldType)).before args0 about1 = true := code_word (m := ⟨0, 0⟩) (meth := k0m0) (c := k0c0) (by decide +kernel) rfl rfl rfl (by decide +kernel)
set_option maxRecDepth 65536 in
theorem w_c3 : (Jvm.Cond.code ({ cls := "com/example/honeyguide/honeyguide/service/Region", name := "words", desc := "(I)I" } : Jvm.MethodName) prog_104_method_2_code (1 : Nat) (Option.some Jvm.ClassFile.FieldType.int)).before args0 about1 = true := code_word (m := ⟨2, 1⟩) (meth := k2m1) (c := k2c1) (by decide +kernel) rfl rfl rfl (by decide +kernel)
set_option maxRecDepth 65536 in
theorem w_c4 : (Jvm.Cond.code ({ cls := "com/example/honeyguide/honeyguide/service/Region", name := "clear", desc := "()V" } : Jvm.MethodName) prog_104_method_4_code (1 : Nat) (Option.none : Option Jvm.ClassFile.FieldType)).before args0 about1 = true := code_word (m := ⟨2, 2⟩) (meth := k2m2) (c := k2c2) (by decide +kernel) rfl rfl rfl (by decide +kernel)
set_option maxRecDepth 65536 in
theorem w_c5 : (Jvm.Cond.code ({ cls := "com/example/honeyguide/honeyguide/service/Region", name := "add", desc := "(I)V" } : Jvm.MethodName) prog_104_method_5_code (3 : Nat) (Option.none : Option Jvm.ClassFile.FieldType)).before args0 about1 = true := code_word (m := ⟨2, 3⟩) (meth := k2m3) (c := k2c3) (by decide +kernel) rfl rfl rfl (by decide +kernel)
set_option maxRecDepth 65536 in
theorem w_c6 : (Jvm.Cond.code ({ cls := "com/example/honeyguide/honeyguide/service/Region", name := "holdsWord", desc := "(I)Z" } : Jvm.MethodName) prog_104_method_12_code (3 : Nat) (Option.some Jvm.ClassFile.FieldType.boolean)).before args0 about1 = true := code_word (m := ⟨2, 7⟩) (meth := k2m7) (c := k2c7) (by decide +kernel) rfl rfl rfl (by decide +kernel)
set_option maxRecDepth 65536 in
theorem w_c7 : (Jvm.Cond.code ({ cls := "com/example/honeyguide/honeyguide/service/Region", name := "putWord", desc := "(II)V" } : Jvm.MethodName) prog_104_method_6_code (3 : Nat) (Option.none : Option Jvm.ClassFile.FieldType)).before args0 about1 = true := code_word (m := ⟨2, 4⟩) (meth := k2m4) (c := k2c4) (by decide +kernel) rfl rfl rfl (by decide +kernel)
set_option maxRecDepth 65536 in
theorem w_c8 : (Jvm.Cond.code ({ cls := "java/lang/Math", name := "min", desc := "(II)I" } : Jvm.MethodName) jdk_29_method_69_code (2 : Nat) (Option.some Jvm.ClassFile.FieldType.int)).before args0 about1 = true := code_word (m := ⟨3, 2⟩) (meth := k3m2) (c := k3c2) (by decide +kernel) rfl rfl rfl (by decide +kernel)
set_option maxRecDepth 65536 in
theorem w_c9 : (Jvm.Cond.code ({ cls := "java/lang/Math", name := "max", desc := "(II)I" } : Jvm.MethodName) jdk_29_method_65_code (2 : Nat) (Option.some Jvm.ClassFile.FieldType.int)).before args0 about1 = true := code_word (m := ⟨3, 1⟩) (meth := k3m1) (c := k3c1) (by decide +kernel) rfl rfl rfl (by decide +kernel)
set_option maxRecDepth 65536 in
theorem w_c10 : (Jvm.Cond.code ({ cls := "com/example/honeyguide/honeyguide/service/Region", name := "wordCount", desc := "()I" } : Jvm.MethodName) prog_104_method_7_code (1 : Nat) (Option.some Jvm.ClassFile.FieldType.int)).before args0 about1 = true := code_word (m := ⟨2, 5⟩) (meth := k2m5) (c := k2c5) (by decide +kernel) rfl rfl rfl (by decide +kernel)
set_option maxRecDepth 65536 in
theorem w_c11 : (Jvm.Cond.code ({ cls := "com/example/honeyguide/honeyguide/service/Region", name := "word", desc := "(I)I" } : Jvm.MethodName) prog_104_method_8_code (2 : Nat) (Option.some Jvm.ClassFile.FieldType.int)).before args0 about1 = true := code_word (m := ⟨2, 6⟩) (meth := k2m6) (c := k2c6) (by decide +kernel) rfl rfl rfl (by decide +kernel)
set_option maxRecDepth 65536 in
theorem w_c12 : (Jvm.Cond.code ({ cls := "com/example/honeyguide/honeyguide/service/Region", name := "position", desc := "(I)I" } : Jvm.MethodName) prog_104_method_17_code (3 : Nat) (Option.some Jvm.ClassFile.FieldType.int)).before args0 about1 = true := code_word (m := ⟨2, 8⟩) (meth := k2m8) (c := k2c8) (by decide +kernel) rfl rfl rfl (by decide +kernel)
def codes1 : List Jvm.Cond := [Jvm.Cond.code x code maxLocals ret, Jvm.Cond.code ({ cls := "com/example/honeyguide/honeyguide/service/Region", name := "<init>", desc := "(I)V" } : Jvm.MethodName) prog_104_method_1_code (2 : Nat) (Option.none : Option Jvm.ClassFile.FieldType), Jvm.Cond.code ({ cls := "java/lang/Object", name := "<init>", desc := "()V" } : Jvm.MethodName) object_method_1_code (1 : Nat) (Option.none : Option Jvm.ClassFile.FieldType), Jvm.Cond.code ({ cls := "com/example/honeyguide/honeyguide/service/Region", name := "words", desc := "(I)I" } : Jvm.MethodName) prog_104_method_2_code (1 : Nat) (Option.some Jvm.ClassFile.FieldType.int), Jvm.Cond.code ({ cls := "com/example/honeyguide/honeyguide/service/Region", name := "clear", desc := "()V" } : Jvm.MethodName) prog_104_method_4_code (1 : Nat) (Option.none : Option Jvm.ClassFile.FieldType), Jvm.Cond.code ({ cls := "com/example/honeyguide/honeyguide/service/Region", name := "add", desc := "(I)V" } : Jvm.MethodName) prog_104_method_5_code (3 : Nat) (Option.none : Option Jvm.ClassFile.FieldType), Jvm.Cond.code ({ cls := "com/example/honeyguide/honeyguide/service/Region", name := "holdsWord", desc := "(I)Z" } : Jvm.MethodName) prog_104_method_12_code (3 : Nat) (Option.some Jvm.ClassFile.FieldType.boolean), Jvm.Cond.code ({ cls := "com/example/honeyguide/honeyguide/service/Region", name := "putWord", desc := "(II)V" } : Jvm.MethodName) prog_104_method_6_code (3 : Nat) (Option.none : Option Jvm.ClassFile.FieldType), Jvm.Cond.code ({ cls := "java/lang/Math", name := "min", desc := "(II)I" } : Jvm.MethodName) jdk_29_method_69_code (2 : Nat) (Option.some Jvm.ClassFile.FieldType.int), Jvm.Cond.code ({ cls := "java/lang/Math", name := "max", desc := "(II)I" } : Jvm.MethodName) jdk_29_method_65_code (2 : Nat) (Option.some Jvm.ClassFile.FieldType.int), Jvm.Cond.code ({ cls := "com/example/honeyguide/honeyguide/service/Region", name := "wordCount", desc := "()I" } : Jvm.MethodName) prog_104_method_7_code (1 : Nat) (Option.some Jvm.ClassFile.FieldType.int), Jvm.Cond.code ({ cls := "com/example/honeyguide/honeyguide/service/Region", name := "word", desc := "(I)I" } : Jvm.MethodName) prog_104_method_8_code (2 : Nat) (Option.some Jvm.ClassFile.FieldType.int), Jvm.Cond.code ({ cls := "com/example/honeyguide/honeyguide/service/Region", name := "position", desc := "(I)I" } : Jvm.MethodName) prog_104_method_17_code (3 : Nat) (Option.some Jvm.ClassFile.FieldType.int)]
set_option maxRecDepth 65536 in
theorem codes_eq : words1.filter isCode = codes1 := rfl
theorem w_codes : ∀ c ∈ words1.filter isCode, c.before args0 about1 = true := by
  rw [codes_eq]
  intro c hc
  simp only [codes1, List.mem_cons, List.not_mem_nil, or_false] at hc
  rcases hc with rfl | rfl | rfl | rfl | rfl | rfl | rfl | rfl | rfl | rfl | rfl | rfl | rfl
  · exact w_c0
  · exact w_c1
  · exact w_c2
  · exact w_c3
  · exact w_c4
  · exact w_c5
  · exact w_c6
  · exact w_c7
  · exact w_c8
  · exact w_c9
  · exact w_c10
  · exact w_c11
  · exact w_c12
set_option maxRecDepth 65536 in
theorem w_t1 : (words1.take 24).all (fun c => isCode c || c.before args0 about1) = true := by decide +kernel
set_option maxRecDepth 65536 in
theorem w_t2 : ((words1.drop 24).take 24).all (fun c => isCode c || c.before args0 about1) = true := by decide +kernel
set_option maxRecDepth 65536 in
theorem w_t3 : ((words1.drop 24).drop 24).all (fun c => isCode c || c.before args0 about1) = true := by decide +kernel
theorem w_tables : (allAtoms (Jvm.Cond.code x code maxLocals ret :: tables_1)).before args0 about1 = true := by
  rw [allAtoms_all]
  show words1.all (fun c => c.before args0 about1) = true
  refine all_split ?_ w_codes
  rw [← List.take_append_drop 24 words1, List.all_append, w_t1, ← List.take_append_drop 24 (words1.drop 24), List.all_append, w_t2, w_t3]
  rfl
set_option maxRecDepth 65536 in
theorem w_case : (Jvm.Cond.and given_1 narrow_1).before args0 about1 = true := by decide +kernel
theorem w_applies : (headSpec (Jvm.Cond.code x code maxLocals ret :: tables_1) room_1).applies x e0.platform about1 = true :=
  (Spec.applies_iff w_frames).mpr ⟨w_running, w_runnable, w_alone, w_named, w_hears, w_ripe, w_room, w_tables⟩
theorem atStart : AtStart classFile x code maxLocals ret World_1 tables_1 room_1 Calls_1 rest_1 Pre_1 launch0 p0 e0 about1 theMethod args0 below0 :=
  ⟨lists_1, trivial, launch0.admits_env _ _ _, launch0.least_env, fairChoices_fair.cas, fairChoices_fair.clock, w_frames, w_args, w_heap, w_applies, trivial, trivial, w_case⟩
end start1
theorem witness_1 : WitnessClaimed_1 := ⟨start1.p0, start1.e0, start1.about1, start1.theMethod, start1.args0, start1.below0, start1.atStart⟩
end Jvm.Pilot.@@N@@
