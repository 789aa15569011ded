import JvmDerived
import JvmDerived.Pilot.@@N@@Statement
import JvmDerived.Pilot.@@N@@Code
set_option linter.unusedVariables false
set_option linter.unusedSimpArgs false
set_option maxHeartbeats 4000000
namespace Jvm.Pilot.@@N@@
open Jvm Jvm.ClassFile Sem Op Lib Jvm.Free Jvm.Stand Jvm.LawKit Jvm.RoadKit Bundle Jvm.Pilot.@@N@@.Jvm.D
/-! LAYER: an abstract walk over own objects (printed by wip/layer/mklayer.py) -/
abbrev oC : Type := (Nat × List Value) ⊕ (FieldType × List Value)
abbrev oH : Type := List oC
abbrev oK : Type := Nat → String × List (String × String × String)
abbrev oS : Type := Nat × List Slot × List Value × oH × Nat × Nat
/-- where the own objects lie, and others (written as return addresses, which no code here has) -/
abbrev oM : Type := (Nat → Nat) × (Nat → Nat)
def ov (ρ : oM) : Value → Value
  | .ref k => .ref (ρ.1 k)
  | .retAddr k => .ref (ρ.2 k)
  | v => v
def osl (ρ : oM) : Slot → Slot
  | .val v => .val (ov ρ v)
  | x => x
theorem ov_cat (ρ : oM) (v : Value) : (ov ρ v).category = v.category := by cases v <;> rfl
theorem ov_dflt (ρ : oM) (t : FieldType) : ov ρ (defaultValue t) = defaultValue t := by cases t <;> rfl
/-- what an own cell is, in the heap -/
def oR (Z : State) (K : oK) (ρ : oM) (h : Heap) (a : Addr) (c : oC) : Prop := match c with
  | .inl o => Exa Z h a (K o.1).1 ∧ ∀ (i : Nat) (f : String × String × String) (v : Value), (K o.1).2[i]? = some f → o.2[i]? = some v → Fld Z h a f.1 f.2.1 f.2.2 (ov ρ v)
  | .inr q => (q.2.length < 2 ^ 31 ∧ ∀ w ∈ q.2, fits q.1 (ov ρ w) = true) ∧ ∃ cl : Cell, Arr Z h a cl q.1 ∧ cl.slots = (q.2.map (ov ρ)).toArray
def oRep (Z : State) (K : oK) (ρ : oM) (h : Heap) (A : oH) : Prop := (h.size = ρ.1 A.length ∧ (∀ k, A.length ≤ k → ρ.1 (k + 1) = ρ.1 k + 1) ∧ ∀ j k, j < k → ρ.1 j < ρ.1 k) ∧ ∀ (k : Nat) (c : oC), A[k]? = some c → oR Z K ρ h (ρ.1 k) c
theorem oR.ext {Z : State} {K : oK} {ρ : oM} {h h' : Heap} {a : Addr} {c : oC} (E : Ext h h') (H : oR Z K ρ h a c) : oR Z K ρ h' a c := by
  rcases c with o | q
  · exact ⟨H.1.ext E, fun i f v h1 h2 => (H.2 i f v h1 h2).ext E⟩
  · obtain ⟨h1, cl, h2, h3⟩ := H
    exact ⟨h1, cl, h2.ext E, h3⟩
theorem oR.other {Z : State} {K : oK} {ρ : oM} {h h' : Heap} {a b : Addr} {sl : Nat} {v : Value} {c : oC} (W : Wr h h' a sl v) (hne : b ≠ a) (H : oR Z K ρ h b c) : oR Z K ρ h' b c := by
  rcases c with o | q
  · exact ⟨H.1.wr W, fun i f w h1 h2 => (H.2 i f w h1 h2).other W (Or.inl hne)⟩
  · obtain ⟨h1, cl, h2, h3⟩ := H
    exact ⟨h1, cl, h2.other W hne, h3⟩
theorem oRep.ne {Z : State} {K : oK} {ρ : oM} {h : Heap} {A : oH} (H : oRep Z K ρ h A) {j k : Nat} (q : j ≠ k) : ρ.1 j ≠ ρ.1 k := by
  rcases Nat.lt_or_gt_of_ne q with q | q
  · exact Nat.ne_of_lt (H.1.2.2 _ _ q)
  · exact Nat.ne_of_gt (H.1.2.2 _ _ q)
theorem oRep.ge {Z : State} {K : oK} {ρ : oM} {h : Heap} {A : oH} (H : oRep Z K ρ h A) (k : Nat) : ρ.1 0 ≤ ρ.1 k := by
  rcases Nat.eq_zero_or_pos k with q | q
  · rw [q]; exact Nat.le_refl _
  · exact Nat.le_of_lt (H.1.2.2 _ _ q)
theorem oRep.push {Z : State} {K : oK} {ρ : oM} {h h' : Heap} {A : oH} {c : oC} (H : oRep Z K ρ h A) (E : Ext h h') (hs : h'.size = h.size + 1) (hc : oR Z K ρ h' h.size c) : oRep Z K ρ h' (A ++ [c]) := by
  refine ⟨⟨by rw [hs, H.1.1, List.length_append]; exact (H.1.2.1 _ (Nat.le_refl _)).symm, fun k hk => H.1.2.1 k (by rw [List.length_append] at hk; omega), H.1.2.2⟩, fun k d hd => ?_⟩
  rcases Nat.lt_trichotomy k A.length with q | q | q
  · rw [List.getElem?_append_left q] at hd
    exact (H.2 k d hd).ext E
  · subst q
    simp at hd
    subst hd
    rw [← H.1.1]; exact hc
  · rw [List.getElem?_eq_none (by simp; omega)] at hd; cases hd
theorem oRep.wr {Z : State} {K : oK} {ρ : oM} {h h' : Heap} {A : oH} {c : oC} {k sl : Nat} {v : Value} (H : oRep Z K ρ h A) (W : Wr h h' (ρ.1 k) sl v) (hc : oR Z K ρ h' (ρ.1 k) c) : oRep Z K ρ h' (A.set k c) := by
  refine ⟨⟨by rw [W.size, H.1.1, List.length_set], by rw [List.length_set]; exact H.1.2.1, H.1.2.2⟩, fun j d hd => ?_⟩
  by_cases q : j = k
  · subst q
    by_cases hj : j < A.length
    · rw [List.getElem?_set_self hj] at hd; cases hd; exact hc
    · rw [List.getElem?_eq_none (by simp; omega)] at hd; cases hd
  · rw [List.getElem?_set_ne (Ne.symm q)] at hd
    exact (H.2 j d hd).other W (H.ne q)
/-- the fields that a class lays, with their words -/
def oLaid (Z : State) (a0 : Array Value) (C : String) : List (String × String × String) → Prop
  | [] => True
  | f :: fs => (Laid Z a0 C f.1 f.2.1 f.2.2 ∧ ∃ t, parseFieldDescriptor f.2.2 = some t) ∧ oLaid Z a0 C fs
theorem oLaid.at {Z : State} {a0 : Array Value} {C : String} : ∀ {fs : List (String × String × String)}, oLaid Z a0 C fs → ∀ (i : Nat) (f : String × String × String), fs[i]? = some f → Laid Z a0 C f.1 f.2.1 f.2.2 ∧ ∃ t, parseFieldDescriptor f.2.2 = some t
  | [], _, i, f, h => by simp at h
  | g :: gs, H, 0, f, h => by simp at h; subst h; exact H.1
  | g :: gs, H, i + 1, f, h => oLaid.at H.2 i f (by simpa using h)
def oDistinct (fs : List (String × String × String)) : Prop := ∀ (i j : Nat) (f g : String × String × String), fs[i]? = some f → fs[j]? = some g → i ≠ j → f.2.1 ≠ g.2.1
theorem oDistinct.of {fs : List (String × String × String)} (h : (fs.map fun f => f.2.1).Nodup) : oDistinct fs := fun i j f g hi hj hne e => by
  have h1 : (fs.map fun f => f.2.1)[i]? = some f.2.1 := by simp [hi]
  have h2 : (fs.map fun f => f.2.1)[j]? = some g.2.1 := by simp [hj]
  obtain ⟨q1, e1⟩ := List.getElem?_eq_some_iff.mp h1
  obtain ⟨q2, e2⟩ := List.getElem?_eq_some_iff.mp h2
  have hp := List.pairwise_iff_getElem.mp h
  rcases Nat.lt_or_gt_of_ne hne with q | q
  · exact hp i j q1 q2 q (by rw [e1, e2, e])
  · exact hp j i q2 q1 q (by rw [e1, e2, e])
def oKOk (Z : State) (a0 : Array Value) (K : oK) (cid : Nat) : Prop := oLaid Z a0 (K cid).1 (K cid).2 ∧ oDistinct (K cid).2
def oDflt : List (String × String × String) → List Value → Prop
  | [], [] => True
  | f :: fs, v :: vs => (∃ t, parseFieldDescriptor f.2.2 = some t ∧ v = defaultValue t) ∧ oDflt fs vs
  | _, _ => False
theorem oDflt.at : ∀ {fs : List (String × String × String)} {vs : List Value}, oDflt fs vs → ∀ (i : Nat) (f : String × String × String) (v : Value), fs[i]? = some f → vs[i]? = some v → ∃ t, parseFieldDescriptor f.2.2 = some t ∧ v = defaultValue t
  | [], [], _, i, f, v, h, _ => by simp at h
  | [], w :: ws, H, _, _, _, _, _ => H.elim
  | g :: gs, [], H, _, _, _, _, _ => H.elim
  | g :: gs, w :: ws, H, 0, f, v, h, h' => by simp at h h'; subst h h'; exact H.1
  | g :: gs, w :: ws, H, i + 1, f, v, h, h' => oDflt.at H.2 i f v (by simpa using h) (by simpa using h')
/-! the local variables -/
def oAt (L : List Slot) (i : Nat) (x : Slot) : Option (List Slot) := if i < L.length then some (L.set i x) else none
def oSelf (L : List Slot) (i : Nat) (v : Value) : Option (List Slot) :=
  (oAt L i (.val v)).bind fun L =>
  if v.category = 2 then
    (L[i + 1]?).bind fun x => match x with
      | .val old => if old.category = 2 then (oAt L (i + 2) .unset).bind fun L => oAt L (i + 1) .second else oAt L (i + 1) .second
      | .unset => oAt L (i + 1) .second
      | .second => oAt L (i + 1) .second
  else some L
def oSt (L : List Slot) (i : Nat) (v : Value) : Option (List Slot) :=
  (L[i]?).bind fun x => match x with
    | .second => (oAt L (i - 1) .unset).bind fun L => oSelf L i v
    | .val old => if old.category = 2 then (oAt L (i + 1) .unset).bind fun L => oSelf L i v else oSelf L i v
    | .unset => oSelf L i v
theorem oget {ρ : oM} {L : List Slot} {k : Nat} {x : Slot} (h : L[k]? = some x) : (L.map (osl ρ)).toArray[k]? = some (osl ρ x) := by simp [h]
theorem oAt_ok {ρ : oM} {L L' : List Slot} {i : Nat} {x : Slot} (h : oAt L i x = some L') : setAt (L.map (osl ρ)).toArray i (osl ρ x) = some (L'.map (osl ρ)).toArray ∧ L'.length = L.length := by
  unfold oAt at h
  split at h
  · rename_i hi
    cases h
    refine ⟨?_, by simp⟩
    have hi' : i < (L.map (osl ρ)).toArray.size := by simpa using hi
    have e : setAt (L.map (osl ρ)).toArray i (osl ρ x) = some ((L.map (osl ρ)).toArray.setIfInBounds i (osl ρ x)) := if_pos hi'
    rw [e]; simp
  · cases h
theorem oSelf_eq {l : Array Slot} {i : Nat} {v : Value} : storeSelf l i v = ((setAt l i (.val v)).bind fun l => if v.category = 2 then (l[i + 1]?).bind fun x => match x with
      | .val old => if old.category = 2 then (setAt l (i + 2) .unset).bind fun l => setAt l (i + 1) .second else setAt l (i + 1) .second
      | .unset => setAt l (i + 1) .second
      | .second => setAt l (i + 1) .second
  else some l) := by
  show (setAt l i (.val v)).bind _ = _
  cases setAt l i (.val v) with
  | none => rfl
  | some l =>
    show (if v.category = 2 then _ else _) = (if v.category = 2 then _ else _)
    split
    · show (l[i + 1]?).bind _ = (l[i + 1]?).bind _
      cases l[i + 1]? with
      | none => rfl
      | some x => cases x <;> rfl
    · rfl
theorem oSelf_ok {ρ : oM} {L L' : List Slot} {i : Nat} {v : Value} (h : oSelf L i v = some L') : storeSelf (L.map (osl ρ)).toArray i (ov ρ v) = some (L'.map (osl ρ)).toArray ∧ L'.length = L.length := by
  rw [oSelf_eq]
  unfold oSelf at h
  obtain ⟨L1, h1, h⟩ := Option.bind_eq_some_iff.mp h
  have q1 := oAt_ok (ρ := ρ) h1
  have q1' : setAt (L.map (osl ρ)).toArray i (.val (ov ρ v)) = some (L1.map (osl ρ)).toArray := q1.1
  rw [q1', ov_cat]
  show (if v.category = 2 then _ else _) = _ ∧ _
  split at h
  · rename_i hc
    rw [if_pos hc]
    obtain ⟨x, h2, h⟩ := Option.bind_eq_some_iff.mp h
    rw [oget h2]
    cases x with
    | unset => have q := oAt_ok (ρ := ρ) h; exact ⟨q.1, q.2.trans q1.2⟩
    | second => have q := oAt_ok (ρ := ρ) h; exact ⟨q.1, q.2.trans q1.2⟩
    | val old =>
      show (if (ov ρ old).category = 2 then _ else _) = _ ∧ _
      rw [ov_cat]
      dsimp only at h
      split at h
      · rename_i hc2
        rw [if_pos hc2]
        obtain ⟨L2, h3, h⟩ := Option.bind_eq_some_iff.mp h
        have q2 := oAt_ok (ρ := ρ) h3
        have q2' : setAt (L1.map (osl ρ)).toArray (i + 2) .unset = some (L2.map (osl ρ)).toArray := q2.1
        rw [q2']
        have q := oAt_ok (ρ := ρ) h
        exact ⟨q.1, (q.2.trans q2.2).trans q1.2⟩
      · rename_i hc2
        rw [if_neg hc2]
        have q := oAt_ok (ρ := ρ) h
        exact ⟨q.1, q.2.trans q1.2⟩
  · rename_i hc
    rw [if_neg hc]
    cases h
    exact ⟨rfl, q1.2⟩
theorem oSt_eq {l : Array Slot} {i : Nat} {v : Value} : storeLocals l i v = ((l[i]?).bind fun x => match x with
    | .second => (setAt l (i - 1) .unset).bind fun l => storeSelf l i v
    | .val old => if old.category = 2 then (setAt l (i + 1) .unset).bind fun l => storeSelf l i v else storeSelf l i v
    | .unset => storeSelf l i v) := by
  show (l[i]?).bind _ = (l[i]?).bind _
  cases l[i]? with
  | none => rfl
  | some x => cases x <;> rfl
theorem oSt_ok {ρ : oM} {L L' : List Slot} {i : Nat} {v : Value} (h : oSt L i v = some L') : storeLocals (L.map (osl ρ)).toArray i (ov ρ v) = some (L'.map (osl ρ)).toArray ∧ L'.length = L.length := by
  rw [oSt_eq]
  unfold oSt at h
  obtain ⟨x, h1, h⟩ := Option.bind_eq_some_iff.mp h
  rw [oget h1]
  cases x with
  | unset => exact oSelf_ok h
  | second =>
    obtain ⟨L1, h2, h⟩ := Option.bind_eq_some_iff.mp h
    have q1 := oAt_ok (ρ := ρ) h2
    have q1' : setAt (L.map (osl ρ)).toArray (i - 1) .unset = some (L1.map (osl ρ)).toArray := q1.1
    show (setAt _ _ _).bind _ = _ ∧ _
    rw [q1']
    have q := oSelf_ok (ρ := ρ) h
    exact ⟨q.1, q.2.trans q1.2⟩
  | val old =>
    show (if (ov ρ old).category = 2 then _ else _) = _ ∧ _
    rw [ov_cat]
    dsimp only at h
    split at h
    · rename_i hc
      rw [if_pos hc]
      obtain ⟨L1, h2, h⟩ := Option.bind_eq_some_iff.mp h
      have q1 := oAt_ok (ρ := ρ) h2
      have q1' : setAt (L.map (osl ρ)).toArray (i + 1) .unset = some (L1.map (osl ρ)).toArray := q1.1
      rw [q1']
      have q := oSelf_ok (ρ := ρ) h
      exact ⟨q.1, q.2.trans q1.2⟩
    · rename_i hc
      rw [if_neg hc]
      exact oSelf_ok h
/-- a slot of any kind of one word is written over -/
theorem oSt_one {L : List Slot} {i : Nat} {v : Value} {o : Slot} (h : L[i]? = some o) (ho : One o) (hv : v.category = 1) : oSt L i v = some (L.set i (.val v)) := by
  have hi := (List.getElem?_eq_some_iff.mp h).1
  have e : oSelf L i v = some (L.set i (.val v)) := by
    unfold oSelf oAt
    rw [if_pos hi]
    show (if v.category = 2 then _ else _) = _
    rw [if_neg (by omega)]
  unfold oSt
  rw [h]
  rcases ho with rfl | ⟨w, rfl, hw⟩
  · exact e
  · show (if w.category = 2 then _ else _) = _
    rw [if_neg (by omega)]; exact e
/-! the judgements -/
abbrev oF (ρ : oM) (m : MethodId) (a : oS) : JFrame := mkF m a.1 (a.2.1.map (osl ρ)).toArray (a.2.2.1.map (ov ρ))
/-- from the abstract state a the walk comes to b -/
def Sim (l : Launch) (Z : State) (K : oK) (ρ : oM) (own mn : String) (bytes : ByteArray) (ml : Nat) (R : Room) (a b : oS) : Prop :=
  ∀ (p : Program) (e : Env) (s : State) (m : MethodId) (args : Array Value) (below : List Frame) (meth : Method) (c : Code) (T : State) (locs : List Loc),
    Stand p l e R s m args below meth c T locs a.2.2.2.2.1 a.2.2.2.2.2 → p.tables.exec = Jvm.exec → Z.Warmed39 s.vm → c.code = bytes → c.maxLocals = ml → s.vm.findClass own = some m.cls → meth.name = mn → oRep Z K ρ T.heap a.2.2.2.1 → Fr (ρ.1 0) locs → a.2.1.length = ml →
    ∃ (T' : State) (locs' : List Loc), Stand p l e R s m args below meth c T' locs' b.2.2.2.2.1 b.2.2.2.2.2 ∧ oRep Z K ρ T'.heap b.2.2.2.1 ∧ Fr (ρ.1 0) locs' ∧ b.2.1.length = ml ∧
      ∀ target, Steps p.tables e below (T'.setTop (oF ρ m b)) target → Steps p.tables e below (T.setTop (oF ρ m a)) target
/-- from the abstract state a the method returns v, and its own heap is then A' -/
def Ends (l : Launch) (Z : State) (K : oK) (ρ : oM) (own mn : String) (bytes : ByteArray) (ml : Nat) (R : Room) (ret : Option FieldType) (a : oS) (v : Option Value) (A' : oH) : Prop :=
  ∀ (p : Program) (e : Env) (s : State) (m : MethodId) (args : Array Value) (below : List Frame) (meth : Method) (c : Code) (T : State) (locs : List Loc),
    Stand p l e R s m args below meth c T locs a.2.2.2.2.1 a.2.2.2.2.2 → p.tables.exec = Jvm.exec → Z.Warmed39 s.vm → c.code = bytes → c.maxLocals = ml → s.vm.findClass own = some m.cls → meth.name = mn → oRep Z K ρ T.heap a.2.2.2.1 → Fr (ρ.1 0) locs → a.2.1.length = ml →
    meth.sig.returnType = ret → meth.locks = false →
    ∃ (s₂ : State) (locs' : List Loc), Steps p.tables e below (T.setTop (oF ρ m a)) s₂ ∧ s₂.status = .running ∧ Ended s₂ below (.returned (v.map (ov ρ))) ∧ Fr (ρ.1 0) locs' ∧ oRep Z K ρ s₂.heap A' ∧ s.WarmedH s₂.vm ∧ s.sameButNew ({ s₂ with vm := s.vm } : State) locs' R.cells R.slots
/-- the contract of a method at given arguments and own heap -/
def Met (l : Launch) (Z : State) (K : oK) (ρ : oM) (y : MethodName) (bytes : ByteArray) (ml : Nat) (ret : Option FieldType) (rm : Room) (ws : List Jvm.Cond) (as : List Value) (A : oH) (v : Option Value) (A' : oH) : Prop :=
  ∀ h0, oRep Z K ρ h0 A → MetFree l y (head1 (Jvm.Cond.code y bytes ml ret :: ws) rm) (fun a U => a = (as.map (ov ρ)).toArray ∧ Z.Warmed39 U.vm ∧ U.heap = h0) (fun _ _ _ _ _ => True)
    (fun _ U o U' => ∃ v' L, o = .returned v' ∧ (v' = v.map (ov ρ) ∧ Fr (ρ.1 0) L ∧ oRep Z K ρ U'.heap A') ∧ FrameEnd U o U' L rm.cells rm.slots)
section Layer
variable {l : Launch} {Z : State} {K : oK} {ρ : oM} {own mn : String} {bytes : ByteArray} {ml : Nat} {R : Room} {ret : Option FieldType} {a0 : Array Value}
variable {pc pc' : Nat} {L L' : List Slot} {S S' : List Value} {A A' : oH} {c n : Nat} {v : Option Value}
theorem Sim.rf (a : oS) : Sim l Z K ρ own mn bytes ml R a a := fun p e s m args below meth c T locs X _ _ _ _ _ _ hR hF hL => ⟨T, locs, X, hR, hF, hL, fun _ k => k⟩
theorem Sim.tr {a b d : oS} (h1 : Sim l Z K ρ own mn bytes ml R a b) (h2 : Sim l Z K ρ own mn bytes ml R b d) : Sim l Z K ρ own mn bytes ml R a d := fun p e s m args below meth c T locs X hx hZ hby hml hown hnm hR hF hL => by
  obtain ⟨T1, l1, X1, R1, F1, L1, k1⟩ := h1 p e s m args below meth c T locs X hx hZ hby hml hown hnm hR hF hL
  obtain ⟨T2, l2, X2, R2, F2, L2, k2⟩ := h2 p e s m args below meth c T1 l1 X1 hx hZ hby hml hown hnm R1 F1 L1
  exact ⟨T2, l2, X2, R2, F2, L2, fun t k => k1 t (k2 t k)⟩
theorem Ends.st {a b : oS} (h1 : Sim l Z K ρ own mn bytes ml R a b) (h2 : Ends l Z K ρ own mn bytes ml R ret b v A') : Ends l Z K ρ own mn bytes ml R ret a v A' := fun p e s m args below meth c T locs X hx hZ hby hml hown hnm hR hF hL hrt hlk => by
  obtain ⟨T1, l1, X1, R1, F1, L1, k1⟩ := h1 p e s m args below meth c T locs X hx hZ hby hml hown hnm hR hF hL
  obtain ⟨s2, l2, g1, g2⟩ := h2 p e s m args below meth c T1 l1 X1 hx hZ hby hml hown hnm R1 F1 L1 hrt hlk
  exact ⟨s2, l2, k1 s2 g1, g2⟩
/-- the same, whatever its own heap is then -/
def EndsE (l : Launch) (Z : State) (K : oK) (ρ : oM) (own mn : String) (bytes : ByteArray) (ml : Nat) (R : Room) (ret : Option FieldType) (a : oS) (v : Option Value) : Prop := ∃ A', Ends l Z K ρ own mn bytes ml R ret a v A'
theorem EndsE.st {a b : oS} (h1 : Sim l Z K ρ own mn bytes ml R a b) (h2 : EndsE l Z K ρ own mn bytes ml R ret b v) : EndsE l Z K ρ own mn bytes ml R ret a v := h2.imp fun _ h => Ends.st h1 h
theorem Sim.pure (hl : L'.length = L.length)
    (h : ∀ (p : Program) (e : Env) (s : State) (m : MethodId) (args : Array Value) (below : List Frame) (meth : Method) (cd : Code) (T : State) (locs : List Loc), Stand p l e R s m args below meth cd T locs c n → p.tables.exec = Jvm.exec → Z.Warmed39 s.vm → cd.code = bytes → s.vm.findClass own = some m.cls →
      ∀ target, Steps p.tables e below (T.setTop (oF ρ m (pc', L', S', A, c, n))) target → Steps p.tables e below (T.setTop (oF ρ m (pc, L, S, A, c, n))) target) :
    Sim l Z K ρ own mn bytes ml R (pc, L, S, A, c, n) (pc', L', S', A, c, n) :=
  fun p e s m args below meth cd T locs X hx hZ hby hml hown hnm hR hF hL => ⟨T, locs, X, hR, hF, hl.trans hL, h p e s m args below meth cd T locs X hx hZ hby hown⟩

theorem s_iload {j : Nat} {z : Int32} (hd : decode bytes pc = .ok (.iload j, 2)) (hl : L[j]? = some (.val (.int z))) : Sim l Z K ρ own mn bytes ml R (pc, L, S, A, c, n) (pc + 2, L, .int z :: S, A, c, n) :=
  Sim.pure rfl fun p e s m args below meth cd T locs X hx hZ hby hown target k => XS.iload X.here hx rfl (hb hby hd) (oget hl) k
theorem s_iloadN {j : Fin 4} {z : Int32} (hd : decode bytes pc = .ok (.iload_n j, 1)) (hl : L[j.val]? = some (.val (.int z))) : Sim l Z K ρ own mn bytes ml R (pc, L, S, A, c, n) (pc + 1, L, .int z :: S, A, c, n) :=
  Sim.pure rfl fun p e s m args below meth cd T locs X hx hZ hby hown target k => XS.iloadN X.here hx rfl (hb hby hd) (oget hl) k
theorem s_lload {j : Nat} {z : Int64} (hd : decode bytes pc = .ok (.lload j, 2)) (hl : L[j]? = some (.val (.long z))) : Sim l Z K ρ own mn bytes ml R (pc, L, S, A, c, n) (pc + 2, L, .long z :: S, A, c, n) :=
  Sim.pure rfl fun p e s m args below meth cd T locs X hx hZ hby hown target k => XS.lload X.here hx rfl (hb hby hd) (oget hl) k
theorem s_lloadN {j : Fin 4} {z : Int64} (hd : decode bytes pc = .ok (.lload_n j, 1)) (hl : L[j.val]? = some (.val (.long z))) : Sim l Z K ρ own mn bytes ml R (pc, L, S, A, c, n) (pc + 1, L, .long z :: S, A, c, n) :=
  Sim.pure rfl fun p e s m args below meth cd T locs X hx hZ hby hown target k => XS.lloadN X.here hx rfl (hb hby hd) (oget hl) k
theorem s_aload {j : Nat} {w : Value} (hd : decode bytes pc = .ok (.aload j, 2)) (hl : L[j]? = some (.val w)) (hv : (ov ρ w).isRef = true) : Sim l Z K ρ own mn bytes ml R (pc, L, S, A, c, n) (pc + 2, L, w :: S, A, c, n) :=
  Sim.pure rfl fun p e s m args below meth cd T locs X hx hZ hby hown target k => XS.aload X.here hx rfl (hb hby hd) (oget hl) hv k
theorem s_aloadN {j : Fin 4} {w : Value} (hd : decode bytes pc = .ok (.aload_n j, 1)) (hl : L[j.val]? = some (.val w)) (hv : (ov ρ w).isRef = true) : Sim l Z K ρ own mn bytes ml R (pc, L, S, A, c, n) (pc + 1, L, w :: S, A, c, n) :=
  Sim.pure rfl fun p e s m args below meth cd T locs X hx hZ hby hown target k => XS.aloadN X.here hx rfl (hb hby hd) (oget hl) hv k
theorem s_istore {j : Nat} {z : Int32} (hd : decode bytes pc = .ok (.istore j, 2)) (hl : oSt L j (.int z) = some L') : Sim l Z K ρ own mn bytes ml R (pc, L, .int z :: S, A, c, n) (pc + 2, L', S, A, c, n) :=
  Sim.pure (oSt_ok (ρ := ρ) hl).2 fun p e s m args below meth cd T locs X hx hZ hby hown target k => XS.istore X.here hx rfl (hb hby hd) rfl (oSt_ok (ρ := ρ) hl).1 k
theorem s_istoreN {j : Fin 4} {z : Int32} (hd : decode bytes pc = .ok (.istore_n j, 1)) (hl : oSt L j.val (.int z) = some L') : Sim l Z K ρ own mn bytes ml R (pc, L, .int z :: S, A, c, n) (pc + 1, L', S, A, c, n) :=
  Sim.pure (oSt_ok (ρ := ρ) hl).2 fun p e s m args below meth cd T locs X hx hZ hby hown target k => XS.istoreN X.here hx rfl (hb hby hd) rfl (oSt_ok (ρ := ρ) hl).1 k
theorem s_lstore {j : Nat} {z : Int64} (hd : decode bytes pc = .ok (.lstore j, 2)) (hl : oSt L j (.long z) = some L') : Sim l Z K ρ own mn bytes ml R (pc, L, .long z :: S, A, c, n) (pc + 2, L', S, A, c, n) :=
  Sim.pure (oSt_ok (ρ := ρ) hl).2 fun p e s m args below meth cd T locs X hx hZ hby hown target k => XS.lstore X.here hx rfl (hb hby hd) rfl (oSt_ok (ρ := ρ) hl).1 k
theorem s_lstoreN {j : Fin 4} {z : Int64} (hd : decode bytes pc = .ok (.lstore_n j, 1)) (hl : oSt L j.val (.long z) = some L') : Sim l Z K ρ own mn bytes ml R (pc, L, .long z :: S, A, c, n) (pc + 1, L', S, A, c, n) :=
  Sim.pure (oSt_ok (ρ := ρ) hl).2 fun p e s m args below meth cd T locs X hx hZ hby hown target k => XS.lstoreN X.here hx rfl (hb hby hd) rfl (oSt_ok (ρ := ρ) hl).1 k
theorem s_astore {j : Nat} {w : Value} (hd : decode bytes pc = .ok (.astore j, 2)) (hv : (ov ρ w).isRef = true) (hl : oSt L j w = some L') : Sim l Z K ρ own mn bytes ml R (pc, L, w :: S, A, c, n) (pc + 2, L', S, A, c, n) :=
  Sim.pure (oSt_ok (ρ := ρ) hl).2 fun p e s m args below meth cd T locs X hx hZ hby hown target k => XS.astore X.here hx rfl (hb hby hd) rfl hv (oSt_ok (ρ := ρ) hl).1 k
theorem s_astoreN {j : Fin 4} {w : Value} (hd : decode bytes pc = .ok (.astore_n j, 1)) (hv : (ov ρ w).isRef = true) (hl : oSt L j.val w = some L') : Sim l Z K ρ own mn bytes ml R (pc, L, w :: S, A, c, n) (pc + 1, L', S, A, c, n) :=
  Sim.pure (oSt_ok (ρ := ρ) hl).2 fun p e s m args below meth cd T locs X hx hZ hby hown target k => XS.astoreN X.here hx rfl (hb hby hd) rfl hv (oSt_ok (ρ := ρ) hl).1 k
theorem s_iinc {j : Nat} {i : Int} {z z' : Int32} (hd : decode bytes pc = .ok (.iinc j i, 3)) (h : L[j]? = some (.val (.int z))) (hz : z + Int32.ofInt i = z') (hl : oSt L j (.int z') = some L') : Sim l Z K ρ own mn bytes ml R (pc, L, S, A, c, n) (pc + 3, L', S, A, c, n) := by
  subst hz
  exact Sim.pure (oSt_ok (ρ := ρ) hl).2 fun p e s m args below meth cd T locs X hx hZ hby hown target k => XS.iinc X.here hx rfl (hb hby hd) (oget h) (oSt_ok (ρ := ρ) hl).1 k
theorem s_iconst {i : Int} {z : Int32} (hd : decode bytes pc = .ok (.iconst i, 1)) (hz : (Int32.ofInt i) = z) : Sim l Z K ρ own mn bytes ml R (pc, L, S, A, c, n) (pc + 1, L, .int z :: S, A, c, n) := by
  subst hz
  exact Sim.pure rfl fun p e s m args below meth cd T locs X hx hZ hby hown target k => XS.iconst X.here hx rfl (hb hby hd) k
theorem s_bipush {i : Int} {z : Int32} (hd : decode bytes pc = .ok (.bipush i, 2)) (hz : (Int8.ofInt i).toInt32 = z) : Sim l Z K ρ own mn bytes ml R (pc, L, S, A, c, n) (pc + 2, L, .int z :: S, A, c, n) := by
  subst hz
  exact Sim.pure rfl fun p e s m args below meth cd T locs X hx hZ hby hown target k => XS.bipush X.here hx rfl (hb hby hd) k
theorem s_sipush {i : Int} {z : Int32} (hd : decode bytes pc = .ok (.sipush i, 3)) (hz : (Int16.ofInt i).toInt32 = z) : Sim l Z K ρ own mn bytes ml R (pc, L, S, A, c, n) (pc + 3, L, .int z :: S, A, c, n) := by
  subst hz
  exact Sim.pure rfl fun p e s m args below meth cd T locs X hx hZ hby hown target k => XS.sipush X.here hx rfl (hb hby hd) k
theorem s_lconst {i : Fin 2} {z : Int64} (hd : decode bytes pc = .ok (.lconst i, 1)) (hz : Int64.ofNat i = z) : Sim l Z K ρ own mn bytes ml R (pc, L, S, A, c, n) (pc + 1, L, .long z :: S, A, c, n) := by
  subst hz
  exact Sim.pure rfl fun p e s m args below meth cd T locs X hx hZ hby hown target k => XS.lconst X.here hx rfl (hb hby hd) k
theorem s_aconstNull  (hd : decode bytes pc = .ok (.aconst_null, 1)) : Sim l Z K ρ own mn bytes ml R (pc, L, S, A, c, n) (pc + 1, L, .null :: S, A, c, n) :=
  Sim.pure rfl fun p e s m args below meth cd T locs X hx hZ hby hown target k => XS.aconstNull X.here hx rfl (hb hby hd) k
theorem s_ldc {i : Nat} {z : Int32} (w : (Jvm.Cond.constant own i z).before a0 Z = true) (hd : decode bytes pc = .ok (.ldc i, 2)) : Sim l Z K ρ own mn bytes ml R (pc, L, S, A, c, n) (pc + 2, L, .int z :: S, A, c, n) :=
  Sim.pure rfl fun p e s m args below meth cd T locs X hx hZ hby hown target k => X.ldcInt hx hown (mvT hZ w) (g := oF ρ m (pc, L, S, A, c, n)) rfl (hb hby hd) target k
theorem s_ldcw {i : Nat} {z : Int32} (w : (Jvm.Cond.constant own i z).before a0 Z = true) (hd : decode bytes pc = .ok (.ldc_w i, 3)) : Sim l Z K ρ own mn bytes ml R (pc, L, S, A, c, n) (pc + 3, L, .int z :: S, A, c, n) :=
  Sim.pure rfl fun p e s m args below meth cd T locs X hx hZ hby hown target k => X.ldcwInt hx hown (mvT hZ w) (g := oF ρ m (pc, L, S, A, c, n)) rfl (hb hby hd) target k
theorem s_ldc2 {i : Nat} {z : Int64} (w : (Jvm.Cond.constantLong own i z).before a0 Z = true) (hd : decode bytes pc = .ok (.ldc2_w i, 3)) : Sim l Z K ρ own mn bytes ml R (pc, L, S, A, c, n) (pc + 3, L, .long z :: S, A, c, n) :=
  Sim.pure rfl fun p e s m args below meth cd T locs X hx hZ hby hown target k => X.ldc2Long hx hown (mvT hZ w) (g := oF ρ m (pc, L, S, A, c, n)) rfl (hb hby hd) target k
def jushr (x y : Int32) : Int32 := (x.toUInt32 >>> (y &&& 31).toUInt32).toInt32
def jshl (x y : Int32) : Int32 := x <<< (y &&& 31)
def jshr (x y : Int32) : Int32 := x >>> (y &&& 31)
def jushrL (x : Int64) (y : Int32) : Int64 := (x.toUInt64 >>> (y &&& 0x3f).toInt64.toUInt64).toInt64
def jshlL (x : Int64) (y : Int32) : Int64 := x <<< (y &&& 0x3f).toInt64
def jshrL (x : Int64) (y : Int32) : Int64 := x >>> (y &&& 0x3f).toInt64
def jcmp (x y : Int64) : Int32 := if x > y then 1 else if x = y then 0 else -1
theorem s_iadd {x y : Int32} (hd : decode bytes pc = .ok (.iadd, 1)) : Sim l Z K ρ own mn bytes ml R (pc, L, .int y :: .int x :: S, A, c, n) (pc + 1, L, .int (x + y) :: S, A, c, n) :=
  Sim.pure rfl fun p e s m args below meth cd T locs X hx hZ hby hown target k => XS.iadd X.here hx rfl (hb hby hd) rfl k
theorem s_isub {x y : Int32} (hd : decode bytes pc = .ok (.isub, 1)) : Sim l Z K ρ own mn bytes ml R (pc, L, .int y :: .int x :: S, A, c, n) (pc + 1, L, .int (x - y) :: S, A, c, n) :=
  Sim.pure rfl fun p e s m args below meth cd T locs X hx hZ hby hown target k => XS.isub X.here hx rfl (hb hby hd) rfl k
theorem s_imul {x y : Int32} (hd : decode bytes pc = .ok (.imul, 1)) : Sim l Z K ρ own mn bytes ml R (pc, L, .int y :: .int x :: S, A, c, n) (pc + 1, L, .int (x * y) :: S, A, c, n) :=
  Sim.pure rfl fun p e s m args below meth cd T locs X hx hZ hby hown target k => XS.imul X.here hx rfl (hb hby hd) rfl k
theorem s_iand {x y : Int32} (hd : decode bytes pc = .ok (.iand, 1)) : Sim l Z K ρ own mn bytes ml R (pc, L, .int y :: .int x :: S, A, c, n) (pc + 1, L, .int (x &&& y) :: S, A, c, n) :=
  Sim.pure rfl fun p e s m args below meth cd T locs X hx hZ hby hown target k => XS.iand X.here hx rfl (hb hby hd) rfl k
theorem s_ior {x y : Int32} (hd : decode bytes pc = .ok (.ior, 1)) : Sim l Z K ρ own mn bytes ml R (pc, L, .int y :: .int x :: S, A, c, n) (pc + 1, L, .int (x ||| y) :: S, A, c, n) :=
  Sim.pure rfl fun p e s m args below meth cd T locs X hx hZ hby hown target k => XS.ior X.here hx rfl (hb hby hd) rfl k
theorem s_ixor {x y : Int32} (hd : decode bytes pc = .ok (.ixor, 1)) : Sim l Z K ρ own mn bytes ml R (pc, L, .int y :: .int x :: S, A, c, n) (pc + 1, L, .int (x ^^^ y) :: S, A, c, n) :=
  Sim.pure rfl fun p e s m args below meth cd T locs X hx hZ hby hown target k => XS.ixor X.here hx rfl (hb hby hd) rfl k
theorem s_ishl {x y : Int32} (hd : decode bytes pc = .ok (.ishl, 1)) : Sim l Z K ρ own mn bytes ml R (pc, L, .int y :: .int x :: S, A, c, n) (pc + 1, L, .int (jshl x y) :: S, A, c, n) :=
  Sim.pure rfl fun p e s m args below meth cd T locs X hx hZ hby hown target k => XS.ishl X.here hx rfl (hb hby hd) rfl k
theorem s_ishr {x y : Int32} (hd : decode bytes pc = .ok (.ishr, 1)) : Sim l Z K ρ own mn bytes ml R (pc, L, .int y :: .int x :: S, A, c, n) (pc + 1, L, .int (jshr x y) :: S, A, c, n) :=
  Sim.pure rfl fun p e s m args below meth cd T locs X hx hZ hby hown target k => XS.ishr X.here hx rfl (hb hby hd) rfl k
theorem s_iushr {x y : Int32} (hd : decode bytes pc = .ok (.iushr, 1)) : Sim l Z K ρ own mn bytes ml R (pc, L, .int y :: .int x :: S, A, c, n) (pc + 1, L, .int (jushr x y) :: S, A, c, n) :=
  Sim.pure rfl fun p e s m args below meth cd T locs X hx hZ hby hown target k => XS.iushr X.here hx rfl (hb hby hd) rfl k
theorem s_ladd {x y : Int64} (hd : decode bytes pc = .ok (.ladd, 1)) : Sim l Z K ρ own mn bytes ml R (pc, L, .long y :: .long x :: S, A, c, n) (pc + 1, L, .long (x + y) :: S, A, c, n) :=
  Sim.pure rfl fun p e s m args below meth cd T locs X hx hZ hby hown target k => XS.ladd X.here hx rfl (hb hby hd) rfl k
theorem s_lsub {x y : Int64} (hd : decode bytes pc = .ok (.lsub, 1)) : Sim l Z K ρ own mn bytes ml R (pc, L, .long y :: .long x :: S, A, c, n) (pc + 1, L, .long (x - y) :: S, A, c, n) :=
  Sim.pure rfl fun p e s m args below meth cd T locs X hx hZ hby hown target k => XS.lsub X.here hx rfl (hb hby hd) rfl k
theorem s_lmul {x y : Int64} (hd : decode bytes pc = .ok (.lmul, 1)) : Sim l Z K ρ own mn bytes ml R (pc, L, .long y :: .long x :: S, A, c, n) (pc + 1, L, .long (x * y) :: S, A, c, n) :=
  Sim.pure rfl fun p e s m args below meth cd T locs X hx hZ hby hown target k => XS.lmul X.here hx rfl (hb hby hd) rfl k
theorem s_land {x y : Int64} (hd : decode bytes pc = .ok (.land, 1)) : Sim l Z K ρ own mn bytes ml R (pc, L, .long y :: .long x :: S, A, c, n) (pc + 1, L, .long (x &&& y) :: S, A, c, n) :=
  Sim.pure rfl fun p e s m args below meth cd T locs X hx hZ hby hown target k => XS.land X.here hx rfl (hb hby hd) rfl k
theorem s_lor {x y : Int64} (hd : decode bytes pc = .ok (.lor, 1)) : Sim l Z K ρ own mn bytes ml R (pc, L, .long y :: .long x :: S, A, c, n) (pc + 1, L, .long (x ||| y) :: S, A, c, n) :=
  Sim.pure rfl fun p e s m args below meth cd T locs X hx hZ hby hown target k => XS.lor X.here hx rfl (hb hby hd) rfl k
theorem s_lxor {x y : Int64} (hd : decode bytes pc = .ok (.lxor, 1)) : Sim l Z K ρ own mn bytes ml R (pc, L, .long y :: .long x :: S, A, c, n) (pc + 1, L, .long (x ^^^ y) :: S, A, c, n) :=
  Sim.pure rfl fun p e s m args below meth cd T locs X hx hZ hby hown target k => XS.lxor X.here hx rfl (hb hby hd) rfl k
theorem s_lshl {x : Int64} {y : Int32} (hd : decode bytes pc = .ok (.lshl, 1)) : Sim l Z K ρ own mn bytes ml R (pc, L, .int y :: .long x :: S, A, c, n) (pc + 1, L, .long (jshlL x y) :: S, A, c, n) :=
  Sim.pure rfl fun p e s m args below meth cd T locs X hx hZ hby hown target k => XS.lshl X.here hx rfl (hb hby hd) rfl k
theorem s_lshr {x : Int64} {y : Int32} (hd : decode bytes pc = .ok (.lshr, 1)) : Sim l Z K ρ own mn bytes ml R (pc, L, .int y :: .long x :: S, A, c, n) (pc + 1, L, .long (jshrL x y) :: S, A, c, n) :=
  Sim.pure rfl fun p e s m args below meth cd T locs X hx hZ hby hown target k => XS.lshr X.here hx rfl (hb hby hd) rfl k
theorem s_lushr {x : Int64} {y : Int32} (hd : decode bytes pc = .ok (.lushr, 1)) : Sim l Z K ρ own mn bytes ml R (pc, L, .int y :: .long x :: S, A, c, n) (pc + 1, L, .long (jushrL x y) :: S, A, c, n) :=
  Sim.pure rfl fun p e s m args below meth cd T locs X hx hZ hby hown target k => XS.lushr X.here hx rfl (hb hby hd) rfl k
theorem s_lcmp {x y : Int64} (hd : decode bytes pc = .ok (.lcmp, 1)) : Sim l Z K ρ own mn bytes ml R (pc, L, .long y :: .long x :: S, A, c, n) (pc + 1, L, .int (jcmp x y) :: S, A, c, n) :=
  Sim.pure rfl fun p e s m args below meth cd T locs X hx hZ hby hown target k => XS.lcmp X.here hx rfl (hb hby hd) rfl k
theorem s_ineg {x : Int32} (hd : decode bytes pc = .ok (.ineg, 1)) : Sim l Z K ρ own mn bytes ml R (pc, L, .int x :: S, A, c, n) (pc + 1, L, .int (-x) :: S, A, c, n) :=
  Sim.pure rfl fun p e s m args below meth cd T locs X hx hZ hby hown target k => XS.ineg X.here hx rfl (hb hby hd) rfl k
theorem s_lneg {x : Int64} (hd : decode bytes pc = .ok (.lneg, 1)) : Sim l Z K ρ own mn bytes ml R (pc, L, .long x :: S, A, c, n) (pc + 1, L, .long (-x) :: S, A, c, n) :=
  Sim.pure rfl fun p e s m args below meth cd T locs X hx hZ hby hown target k => XS.lneg X.here hx rfl (hb hby hd) rfl k
theorem s_i2l {x : Int32} (hd : decode bytes pc = .ok (.i2l, 1)) : Sim l Z K ρ own mn bytes ml R (pc, L, .int x :: S, A, c, n) (pc + 1, L, .long (x.toInt64) :: S, A, c, n) :=
  Sim.pure rfl fun p e s m args below meth cd T locs X hx hZ hby hown target k => XS.i2l X.here hx rfl (hb hby hd) rfl k
theorem s_l2i {x : Int64} (hd : decode bytes pc = .ok (.l2i, 1)) : Sim l Z K ρ own mn bytes ml R (pc, L, .long x :: S, A, c, n) (pc + 1, L, .int (x.toInt32) :: S, A, c, n) :=
  Sim.pure rfl fun p e s m args below meth cd T locs X hx hZ hby hown target k => XS.l2i X.here hx rfl (hb hby hd) rfl k
theorem s_i2b {x : Int32} (hd : decode bytes pc = .ok (.i2b, 1)) : Sim l Z K ρ own mn bytes ml R (pc, L, .int x :: S, A, c, n) (pc + 1, L, .int (x.toInt8.toInt32) :: S, A, c, n) :=
  Sim.pure rfl fun p e s m args below meth cd T locs X hx hZ hby hown target k => XS.i2b X.here hx rfl (hb hby hd) rfl k
theorem s_i2s {x : Int32} (hd : decode bytes pc = .ok (.i2s, 1)) : Sim l Z K ρ own mn bytes ml R (pc, L, .int x :: S, A, c, n) (pc + 1, L, .int (x.toInt16.toInt32) :: S, A, c, n) :=
  Sim.pure rfl fun p e s m args below meth cd T locs X hx hZ hby hown target k => XS.i2s X.here hx rfl (hb hby hd) rfl k
theorem s_i2c {x : Int32} (hd : decode bytes pc = .ok (.i2c, 1)) : Sim l Z K ρ own mn bytes ml R (pc, L, .int x :: S, A, c, n) (pc + 1, L, .int (x.toUInt32.toUInt16.toUInt32.toInt32) :: S, A, c, n) :=
  Sim.pure rfl fun p e s m args below meth cd T locs X hx hZ hby hown target k => XS.i2c X.here hx rfl (hb hby hd) rfl k
theorem s_idiv {x y : Int32} (hd : decode bytes pc = .ok (.idiv, 1)) (hy : y ≠ 0) : Sim l Z K ρ own mn bytes ml R (pc, L, .int y :: .int x :: S, A, c, n) (pc + 1, L, .int (x / y) :: S, A, c, n) :=
  Sim.pure rfl fun p e s m args below meth cd T locs X hx hZ hby hown target k => XS.idiv X.here hx rfl (hb hby hd) rfl hy k
theorem s_irem {x y : Int32} (hd : decode bytes pc = .ok (.irem, 1)) (hy : y ≠ 0) : Sim l Z K ρ own mn bytes ml R (pc, L, .int y :: .int x :: S, A, c, n) (pc + 1, L, .int (x % y) :: S, A, c, n) :=
  Sim.pure rfl fun p e s m args below meth cd T locs X hx hZ hby hown target k => iremM X hx rfl (hb hby hd) rfl hy k
theorem s_ldiv {x y : Int64} (hd : decode bytes pc = .ok (.ldiv, 1)) (hy : y ≠ 0) : Sim l Z K ρ own mn bytes ml R (pc, L, .long y :: .long x :: S, A, c, n) (pc + 1, L, .long (x / y) :: S, A, c, n) :=
  Sim.pure rfl fun p e s m args below meth cd T locs X hx hZ hby hown target k => XS.ldiv X.here hx rfl (hb hby hd) rfl hy k
theorem s_lrem {x y : Int64} (hd : decode bytes pc = .ok (.lrem, 1)) (hy : y ≠ 0) : Sim l Z K ρ own mn bytes ml R (pc, L, .long y :: .long x :: S, A, c, n) (pc + 1, L, .long (x % y) :: S, A, c, n) :=
  Sim.pure rfl fun p e s m args below meth cd T locs X hx hZ hby hown target k => XS.lrem X.here hx rfl (hb hby hd) rfl hy (by rw [lrem_mod x y]; exact k)
theorem s_dup {w : Value} (hd : decode bytes pc = .ok (.dup, 1)) (hc : w.category = 1) : Sim l Z K ρ own mn bytes ml R (pc, L, w :: S, A, c, n) (pc + 1, L, w :: w :: S, A, c, n) :=
  Sim.pure rfl fun p e s m args below meth cd T locs X hx hZ hby hown target k => XS.dup X.here hx rfl (hb hby hd) rfl ((ov_cat ρ w).trans hc) k
theorem s_pop {w : Value} (hd : decode bytes pc = .ok (.pop, 1)) (hc : w.category = 1) : Sim l Z K ρ own mn bytes ml R (pc, L, w :: S, A, c, n) (pc + 1, L, S, A, c, n) :=
  Sim.pure rfl fun p e s m args below meth cd T locs X hx hZ hby hown target k => XS.pop X.here hx rfl (hb hby hd) rfl ((ov_cat ρ w).trans hc) k
theorem s_dupX1 {w u : Value} (hd : decode bytes pc = .ok (.dup_x1, 1)) (hc : w.category = 1) (hc' : u.category = 1) : Sim l Z K ρ own mn bytes ml R (pc, L, w :: u :: S, A, c, n) (pc + 1, L, w :: u :: w :: S, A, c, n) :=
  Sim.pure rfl fun p e s m args below meth cd T locs X hx hZ hby hown target k => XS.dupX1 X.here hx rfl (hb hby hd) rfl ((ov_cat ρ w).trans hc) ((ov_cat ρ u).trans hc') k
theorem s_goto {o : Int} (hd : decode bytes pc = .ok (.goto o, 3)) (ho : 0 ≤ (pc : Int) + o) (hp : ((pc : Int) + o).toNat = pc') : Sim l Z K ρ own mn bytes ml R (pc, L, S, A, c, n) (pc', L, S, A, c, n) :=
  Sim.pure rfl fun p e s m args below meth cd T locs X hx hZ hby hown target k => XS.goto X.here hx rfl rfl (hb hby hd) ho hp k
theorem s_icmp_eq_t {o : Int} {x y : Int32} (hd : decode bytes pc = .ok (.if_icmp .eq o, 3)) (h : x = y) (ho : 0 ≤ (pc : Int) + o) (hp : ((pc : Int) + o).toNat = pc') : Sim l Z K ρ own mn bytes ml R (pc, L, .int y :: .int x :: S, A, c, n) (pc', L, S, A, c, n) :=
  Sim.pure rfl fun p e s m args below meth cd T locs X hx hZ hby hown target k => XS.icmpYes X.here hx rfl rfl (hb hby hd) rfl (teq h).1 ho hp k
theorem s_icmp_eq_f {o : Int} {x y : Int32} (hd : decode bytes pc = .ok (.if_icmp .eq o, 3)) (h : ¬ x = y) : Sim l Z K ρ own mn bytes ml R (pc, L, .int y :: .int x :: S, A, c, n) (pc + 3, L, S, A, c, n) :=
  Sim.pure rfl fun p e s m args below meth cd T locs X hx hZ hby hown target k => XS.icmpNo X.here hx rfl (hb hby hd) rfl (feq h).1 k
theorem s_if_eq_t {o : Int} {x : Int32} (hd : decode bytes pc = .ok (.ifCond .eq o, 3)) (h : x = 0) (ho : 0 ≤ (pc : Int) + o) (hp : ((pc : Int) + o).toNat = pc') : Sim l Z K ρ own mn bytes ml R (pc, L, .int x :: S, A, c, n) (pc', L, S, A, c, n) :=
  Sim.pure rfl fun p e s m args below meth cd T locs X hx hZ hby hown target k => XS.ifYes X.here hx rfl rfl (hb hby hd) rfl ((if0 _ _).trans (teq h).1) ho hp k
theorem s_if_eq_f {o : Int} {x : Int32} (hd : decode bytes pc = .ok (.ifCond .eq o, 3)) (h : ¬ x = 0) : Sim l Z K ρ own mn bytes ml R (pc, L, .int x :: S, A, c, n) (pc + 3, L, S, A, c, n) :=
  Sim.pure rfl fun p e s m args below meth cd T locs X hx hZ hby hown target k => XS.ifNo X.here hx rfl (hb hby hd) rfl ((if0 _ _).trans (feq h).1) k
theorem Ends.icmp_eq {o : Int} {x y : Int32} (hd : decode bytes pc = .ok (.if_icmp .eq o, 3)) (ho : 0 ≤ (pc : Int) + o) (hp : ((pc : Int) + o).toNat = pc') (ht : x = y → Ends l Z K ρ own mn bytes ml R ret (pc', L, S, A, c, n) v A') (hf : ¬ x = y → Ends l Z K ρ own mn bytes ml R ret (pc + 3, L, S, A, c, n) v A') : Ends l Z K ρ own mn bytes ml R ret (pc, L, .int y :: .int x :: S, A, c, n) v A' := by
  by_cases h : x = y
  · exact Ends.st (s_icmp_eq_t hd h ho hp) (ht h)
  · exact Ends.st (s_icmp_eq_f hd h) (hf h)
theorem Ends.if_eq {o : Int} {x : Int32} (hd : decode bytes pc = .ok (.ifCond .eq o, 3)) (ho : 0 ≤ (pc : Int) + o) (hp : ((pc : Int) + o).toNat = pc') (ht : x = 0 → Ends l Z K ρ own mn bytes ml R ret (pc', L, S, A, c, n) v A') (hf : ¬ x = 0 → Ends l Z K ρ own mn bytes ml R ret (pc + 3, L, S, A, c, n) v A') : Ends l Z K ρ own mn bytes ml R ret (pc, L, .int x :: S, A, c, n) v A' := by
  by_cases h : x = 0
  · exact Ends.st (s_if_eq_t hd h ho hp) (ht h)
  · exact Ends.st (s_if_eq_f hd h) (hf h)
theorem Sim.icmp_eq {q : oS} {o : Int} {x y : Int32} (hd : decode bytes pc = .ok (.if_icmp .eq o, 3)) (ho : 0 ≤ (pc : Int) + o) (hp : ((pc : Int) + o).toNat = pc') (ht : x = y → Sim l Z K ρ own mn bytes ml R (pc', L, S, A, c, n) q) (hf : ¬ x = y → Sim l Z K ρ own mn bytes ml R (pc + 3, L, S, A, c, n) q) : Sim l Z K ρ own mn bytes ml R (pc, L, .int y :: .int x :: S, A, c, n) q := by
  by_cases h : x = y
  · exact Sim.tr (s_icmp_eq_t hd h ho hp) (ht h)
  · exact Sim.tr (s_icmp_eq_f hd h) (hf h)
theorem Sim.if_eq {q : oS} {o : Int} {x : Int32} (hd : decode bytes pc = .ok (.ifCond .eq o, 3)) (ho : 0 ≤ (pc : Int) + o) (hp : ((pc : Int) + o).toNat = pc') (ht : x = 0 → Sim l Z K ρ own mn bytes ml R (pc', L, S, A, c, n) q) (hf : ¬ x = 0 → Sim l Z K ρ own mn bytes ml R (pc + 3, L, S, A, c, n) q) : Sim l Z K ρ own mn bytes ml R (pc, L, .int x :: S, A, c, n) q := by
  by_cases h : x = 0
  · exact Sim.tr (s_if_eq_t hd h ho hp) (ht h)
  · exact Sim.tr (s_if_eq_f hd h) (hf h)
theorem EndsE.icmp_eq {o : Int} {x y : Int32} (hd : decode bytes pc = .ok (.if_icmp .eq o, 3)) (ho : 0 ≤ (pc : Int) + o) (hp : ((pc : Int) + o).toNat = pc') (ht : x = y → EndsE l Z K ρ own mn bytes ml R ret (pc', L, S, A, c, n) v) (hf : ¬ x = y → EndsE l Z K ρ own mn bytes ml R ret (pc + 3, L, S, A, c, n) v) : EndsE l Z K ρ own mn bytes ml R ret (pc, L, .int y :: .int x :: S, A, c, n) v := by
  by_cases h : x = y
  · exact EndsE.st (s_icmp_eq_t hd h ho hp) (ht h)
  · exact EndsE.st (s_icmp_eq_f hd h) (hf h)
theorem EndsE.if_eq {o : Int} {x : Int32} (hd : decode bytes pc = .ok (.ifCond .eq o, 3)) (ho : 0 ≤ (pc : Int) + o) (hp : ((pc : Int) + o).toNat = pc') (ht : x = 0 → EndsE l Z K ρ own mn bytes ml R ret (pc', L, S, A, c, n) v) (hf : ¬ x = 0 → EndsE l Z K ρ own mn bytes ml R ret (pc + 3, L, S, A, c, n) v) : EndsE l Z K ρ own mn bytes ml R ret (pc, L, .int x :: S, A, c, n) v := by
  by_cases h : x = 0
  · exact EndsE.st (s_if_eq_t hd h ho hp) (ht h)
  · exact EndsE.st (s_if_eq_f hd h) (hf h)
theorem s_icmp_ne_t {o : Int} {x y : Int32} (hd : decode bytes pc = .ok (.if_icmp .ne o, 3)) (h : ¬ x = y) (ho : 0 ≤ (pc : Int) + o) (hp : ((pc : Int) + o).toNat = pc') : Sim l Z K ρ own mn bytes ml R (pc, L, .int y :: .int x :: S, A, c, n) (pc', L, S, A, c, n) :=
  Sim.pure rfl fun p e s m args below meth cd T locs X hx hZ hby hown target k => XS.icmpYes X.here hx rfl rfl (hb hby hd) rfl (feq h).2 ho hp k
theorem s_icmp_ne_f {o : Int} {x y : Int32} (hd : decode bytes pc = .ok (.if_icmp .ne o, 3)) (h : x = y) : Sim l Z K ρ own mn bytes ml R (pc, L, .int y :: .int x :: S, A, c, n) (pc + 3, L, S, A, c, n) :=
  Sim.pure rfl fun p e s m args below meth cd T locs X hx hZ hby hown target k => XS.icmpNo X.here hx rfl (hb hby hd) rfl (teq h).2 k
theorem s_if_ne_t {o : Int} {x : Int32} (hd : decode bytes pc = .ok (.ifCond .ne o, 3)) (h : ¬ x = 0) (ho : 0 ≤ (pc : Int) + o) (hp : ((pc : Int) + o).toNat = pc') : Sim l Z K ρ own mn bytes ml R (pc, L, .int x :: S, A, c, n) (pc', L, S, A, c, n) :=
  Sim.pure rfl fun p e s m args below meth cd T locs X hx hZ hby hown target k => XS.ifYes X.here hx rfl rfl (hb hby hd) rfl ((if0 _ _).trans (feq h).2) ho hp k
theorem s_if_ne_f {o : Int} {x : Int32} (hd : decode bytes pc = .ok (.ifCond .ne o, 3)) (h : x = 0) : Sim l Z K ρ own mn bytes ml R (pc, L, .int x :: S, A, c, n) (pc + 3, L, S, A, c, n) :=
  Sim.pure rfl fun p e s m args below meth cd T locs X hx hZ hby hown target k => XS.ifNo X.here hx rfl (hb hby hd) rfl ((if0 _ _).trans (teq h).2) k
theorem Ends.icmp_ne {o : Int} {x y : Int32} (hd : decode bytes pc = .ok (.if_icmp .ne o, 3)) (ho : 0 ≤ (pc : Int) + o) (hp : ((pc : Int) + o).toNat = pc') (ht : ¬ x = y → Ends l Z K ρ own mn bytes ml R ret (pc', L, S, A, c, n) v A') (hf : x = y → Ends l Z K ρ own mn bytes ml R ret (pc + 3, L, S, A, c, n) v A') : Ends l Z K ρ own mn bytes ml R ret (pc, L, .int y :: .int x :: S, A, c, n) v A' := by
  by_cases h : ¬ x = y
  · exact Ends.st (s_icmp_ne_t hd h ho hp) (ht h)
  · exact Ends.st (s_icmp_ne_f hd (Classical.not_not.mp h)) (hf (Classical.not_not.mp h))
theorem Ends.if_ne {o : Int} {x : Int32} (hd : decode bytes pc = .ok (.ifCond .ne o, 3)) (ho : 0 ≤ (pc : Int) + o) (hp : ((pc : Int) + o).toNat = pc') (ht : ¬ x = 0 → Ends l Z K ρ own mn bytes ml R ret (pc', L, S, A, c, n) v A') (hf : x = 0 → Ends l Z K ρ own mn bytes ml R ret (pc + 3, L, S, A, c, n) v A') : Ends l Z K ρ own mn bytes ml R ret (pc, L, .int x :: S, A, c, n) v A' := by
  by_cases h : ¬ x = 0
  · exact Ends.st (s_if_ne_t hd h ho hp) (ht h)
  · exact Ends.st (s_if_ne_f hd (Classical.not_not.mp h)) (hf (Classical.not_not.mp h))
theorem Sim.icmp_ne {q : oS} {o : Int} {x y : Int32} (hd : decode bytes pc = .ok (.if_icmp .ne o, 3)) (ho : 0 ≤ (pc : Int) + o) (hp : ((pc : Int) + o).toNat = pc') (ht : ¬ x = y → Sim l Z K ρ own mn bytes ml R (pc', L, S, A, c, n) q) (hf : x = y → Sim l Z K ρ own mn bytes ml R (pc + 3, L, S, A, c, n) q) : Sim l Z K ρ own mn bytes ml R (pc, L, .int y :: .int x :: S, A, c, n) q := by
  by_cases h : ¬ x = y
  · exact Sim.tr (s_icmp_ne_t hd h ho hp) (ht h)
  · exact Sim.tr (s_icmp_ne_f hd (Classical.not_not.mp h)) (hf (Classical.not_not.mp h))
theorem Sim.if_ne {q : oS} {o : Int} {x : Int32} (hd : decode bytes pc = .ok (.ifCond .ne o, 3)) (ho : 0 ≤ (pc : Int) + o) (hp : ((pc : Int) + o).toNat = pc') (ht : ¬ x = 0 → Sim l Z K ρ own mn bytes ml R (pc', L, S, A, c, n) q) (hf : x = 0 → Sim l Z K ρ own mn bytes ml R (pc + 3, L, S, A, c, n) q) : Sim l Z K ρ own mn bytes ml R (pc, L, .int x :: S, A, c, n) q := by
  by_cases h : ¬ x = 0
  · exact Sim.tr (s_if_ne_t hd h ho hp) (ht h)
  · exact Sim.tr (s_if_ne_f hd (Classical.not_not.mp h)) (hf (Classical.not_not.mp h))
theorem EndsE.icmp_ne {o : Int} {x y : Int32} (hd : decode bytes pc = .ok (.if_icmp .ne o, 3)) (ho : 0 ≤ (pc : Int) + o) (hp : ((pc : Int) + o).toNat = pc') (ht : ¬ x = y → EndsE l Z K ρ own mn bytes ml R ret (pc', L, S, A, c, n) v) (hf : x = y → EndsE l Z K ρ own mn bytes ml R ret (pc + 3, L, S, A, c, n) v) : EndsE l Z K ρ own mn bytes ml R ret (pc, L, .int y :: .int x :: S, A, c, n) v := by
  by_cases h : ¬ x = y
  · exact EndsE.st (s_icmp_ne_t hd h ho hp) (ht h)
  · exact EndsE.st (s_icmp_ne_f hd (Classical.not_not.mp h)) (hf (Classical.not_not.mp h))
theorem EndsE.if_ne {o : Int} {x : Int32} (hd : decode bytes pc = .ok (.ifCond .ne o, 3)) (ho : 0 ≤ (pc : Int) + o) (hp : ((pc : Int) + o).toNat = pc') (ht : ¬ x = 0 → EndsE l Z K ρ own mn bytes ml R ret (pc', L, S, A, c, n) v) (hf : x = 0 → EndsE l Z K ρ own mn bytes ml R ret (pc + 3, L, S, A, c, n) v) : EndsE l Z K ρ own mn bytes ml R ret (pc, L, .int x :: S, A, c, n) v := by
  by_cases h : ¬ x = 0
  · exact EndsE.st (s_if_ne_t hd h ho hp) (ht h)
  · exact EndsE.st (s_if_ne_f hd (Classical.not_not.mp h)) (hf (Classical.not_not.mp h))
theorem s_icmp_lt_t {o : Int} {x y : Int32} (hd : decode bytes pc = .ok (.if_icmp .lt o, 3)) (h : x < y) (ho : 0 ≤ (pc : Int) + o) (hp : ((pc : Int) + o).toNat = pc') : Sim l Z K ρ own mn bytes ml R (pc, L, .int y :: .int x :: S, A, c, n) (pc', L, S, A, c, n) :=
  Sim.pure rfl fun p e s m args below meth cd T locs X hx hZ hby hown target k => XS.icmpYes X.here hx rfl rfl (hb hby hd) rfl (tlt h).1 ho hp k
theorem s_icmp_lt_f {o : Int} {x y : Int32} (hd : decode bytes pc = .ok (.if_icmp .lt o, 3)) (h : ¬ x < y) : Sim l Z K ρ own mn bytes ml R (pc, L, .int y :: .int x :: S, A, c, n) (pc + 3, L, S, A, c, n) :=
  Sim.pure rfl fun p e s m args below meth cd T locs X hx hZ hby hown target k => XS.icmpNo X.here hx rfl (hb hby hd) rfl (flt h).1 k
theorem s_if_lt_t {o : Int} {x : Int32} (hd : decode bytes pc = .ok (.ifCond .lt o, 3)) (h : x < 0) (ho : 0 ≤ (pc : Int) + o) (hp : ((pc : Int) + o).toNat = pc') : Sim l Z K ρ own mn bytes ml R (pc, L, .int x :: S, A, c, n) (pc', L, S, A, c, n) :=
  Sim.pure rfl fun p e s m args below meth cd T locs X hx hZ hby hown target k => XS.ifYes X.here hx rfl rfl (hb hby hd) rfl ((if0 _ _).trans (tlt h).1) ho hp k
theorem s_if_lt_f {o : Int} {x : Int32} (hd : decode bytes pc = .ok (.ifCond .lt o, 3)) (h : ¬ x < 0) : Sim l Z K ρ own mn bytes ml R (pc, L, .int x :: S, A, c, n) (pc + 3, L, S, A, c, n) :=
  Sim.pure rfl fun p e s m args below meth cd T locs X hx hZ hby hown target k => XS.ifNo X.here hx rfl (hb hby hd) rfl ((if0 _ _).trans (flt h).1) k
theorem Ends.icmp_lt {o : Int} {x y : Int32} (hd : decode bytes pc = .ok (.if_icmp .lt o, 3)) (ho : 0 ≤ (pc : Int) + o) (hp : ((pc : Int) + o).toNat = pc') (ht : x < y → Ends l Z K ρ own mn bytes ml R ret (pc', L, S, A, c, n) v A') (hf : ¬ x < y → Ends l Z K ρ own mn bytes ml R ret (pc + 3, L, S, A, c, n) v A') : Ends l Z K ρ own mn bytes ml R ret (pc, L, .int y :: .int x :: S, A, c, n) v A' := by
  by_cases h : x < y
  · exact Ends.st (s_icmp_lt_t hd h ho hp) (ht h)
  · exact Ends.st (s_icmp_lt_f hd h) (hf h)
theorem Ends.if_lt {o : Int} {x : Int32} (hd : decode bytes pc = .ok (.ifCond .lt o, 3)) (ho : 0 ≤ (pc : Int) + o) (hp : ((pc : Int) + o).toNat = pc') (ht : x < 0 → Ends l Z K ρ own mn bytes ml R ret (pc', L, S, A, c, n) v A') (hf : ¬ x < 0 → Ends l Z K ρ own mn bytes ml R ret (pc + 3, L, S, A, c, n) v A') : Ends l Z K ρ own mn bytes ml R ret (pc, L, .int x :: S, A, c, n) v A' := by
  by_cases h : x < 0
  · exact Ends.st (s_if_lt_t hd h ho hp) (ht h)
  · exact Ends.st (s_if_lt_f hd h) (hf h)
theorem Sim.icmp_lt {q : oS} {o : Int} {x y : Int32} (hd : decode bytes pc = .ok (.if_icmp .lt o, 3)) (ho : 0 ≤ (pc : Int) + o) (hp : ((pc : Int) + o).toNat = pc') (ht : x < y → Sim l Z K ρ own mn bytes ml R (pc', L, S, A, c, n) q) (hf : ¬ x < y → Sim l Z K ρ own mn bytes ml R (pc + 3, L, S, A, c, n) q) : Sim l Z K ρ own mn bytes ml R (pc, L, .int y :: .int x :: S, A, c, n) q := by
  by_cases h : x < y
  · exact Sim.tr (s_icmp_lt_t hd h ho hp) (ht h)
  · exact Sim.tr (s_icmp_lt_f hd h) (hf h)
theorem Sim.if_lt {q : oS} {o : Int} {x : Int32} (hd : decode bytes pc = .ok (.ifCond .lt o, 3)) (ho : 0 ≤ (pc : Int) + o) (hp : ((pc : Int) + o).toNat = pc') (ht : x < 0 → Sim l Z K ρ own mn bytes ml R (pc', L, S, A, c, n) q) (hf : ¬ x < 0 → Sim l Z K ρ own mn bytes ml R (pc + 3, L, S, A, c, n) q) : Sim l Z K ρ own mn bytes ml R (pc, L, .int x :: S, A, c, n) q := by
  by_cases h : x < 0
  · exact Sim.tr (s_if_lt_t hd h ho hp) (ht h)
  · exact Sim.tr (s_if_lt_f hd h) (hf h)
theorem EndsE.icmp_lt {o : Int} {x y : Int32} (hd : decode bytes pc = .ok (.if_icmp .lt o, 3)) (ho : 0 ≤ (pc : Int) + o) (hp : ((pc : Int) + o).toNat = pc') (ht : x < y → EndsE l Z K ρ own mn bytes ml R ret (pc', L, S, A, c, n) v) (hf : ¬ x < y → EndsE l Z K ρ own mn bytes ml R ret (pc + 3, L, S, A, c, n) v) : EndsE l Z K ρ own mn bytes ml R ret (pc, L, .int y :: .int x :: S, A, c, n) v := by
  by_cases h : x < y
  · exact EndsE.st (s_icmp_lt_t hd h ho hp) (ht h)
  · exact EndsE.st (s_icmp_lt_f hd h) (hf h)
theorem EndsE.if_lt {o : Int} {x : Int32} (hd : decode bytes pc = .ok (.ifCond .lt o, 3)) (ho : 0 ≤ (pc : Int) + o) (hp : ((pc : Int) + o).toNat = pc') (ht : x < 0 → EndsE l Z K ρ own mn bytes ml R ret (pc', L, S, A, c, n) v) (hf : ¬ x < 0 → EndsE l Z K ρ own mn bytes ml R ret (pc + 3, L, S, A, c, n) v) : EndsE l Z K ρ own mn bytes ml R ret (pc, L, .int x :: S, A, c, n) v := by
  by_cases h : x < 0
  · exact EndsE.st (s_if_lt_t hd h ho hp) (ht h)
  · exact EndsE.st (s_if_lt_f hd h) (hf h)
theorem s_icmp_ge_t {o : Int} {x y : Int32} (hd : decode bytes pc = .ok (.if_icmp .ge o, 3)) (h : ¬ x < y) (ho : 0 ≤ (pc : Int) + o) (hp : ((pc : Int) + o).toNat = pc') : Sim l Z K ρ own mn bytes ml R (pc, L, .int y :: .int x :: S, A, c, n) (pc', L, S, A, c, n) :=
  Sim.pure rfl fun p e s m args below meth cd T locs X hx hZ hby hown target k => XS.icmpYes X.here hx rfl rfl (hb hby hd) rfl (flt h).2.1 ho hp k
theorem s_icmp_ge_f {o : Int} {x y : Int32} (hd : decode bytes pc = .ok (.if_icmp .ge o, 3)) (h : x < y) : Sim l Z K ρ own mn bytes ml R (pc, L, .int y :: .int x :: S, A, c, n) (pc + 3, L, S, A, c, n) :=
  Sim.pure rfl fun p e s m args below meth cd T locs X hx hZ hby hown target k => XS.icmpNo X.here hx rfl (hb hby hd) rfl (tlt h).2.1 k
theorem s_if_ge_t {o : Int} {x : Int32} (hd : decode bytes pc = .ok (.ifCond .ge o, 3)) (h : ¬ x < 0) (ho : 0 ≤ (pc : Int) + o) (hp : ((pc : Int) + o).toNat = pc') : Sim l Z K ρ own mn bytes ml R (pc, L, .int x :: S, A, c, n) (pc', L, S, A, c, n) :=
  Sim.pure rfl fun p e s m args below meth cd T locs X hx hZ hby hown target k => XS.ifYes X.here hx rfl rfl (hb hby hd) rfl ((if0 _ _).trans (flt h).2.1) ho hp k
theorem s_if_ge_f {o : Int} {x : Int32} (hd : decode bytes pc = .ok (.ifCond .ge o, 3)) (h : x < 0) : Sim l Z K ρ own mn bytes ml R (pc, L, .int x :: S, A, c, n) (pc + 3, L, S, A, c, n) :=
  Sim.pure rfl fun p e s m args below meth cd T locs X hx hZ hby hown target k => XS.ifNo X.here hx rfl (hb hby hd) rfl ((if0 _ _).trans (tlt h).2.1) k
theorem Ends.icmp_ge {o : Int} {x y : Int32} (hd : decode bytes pc = .ok (.if_icmp .ge o, 3)) (ho : 0 ≤ (pc : Int) + o) (hp : ((pc : Int) + o).toNat = pc') (ht : ¬ x < y → Ends l Z K ρ own mn bytes ml R ret (pc', L, S, A, c, n) v A') (hf : x < y → Ends l Z K ρ own mn bytes ml R ret (pc + 3, L, S, A, c, n) v A') : Ends l Z K ρ own mn bytes ml R ret (pc, L, .int y :: .int x :: S, A, c, n) v A' := by
  by_cases h : ¬ x < y
  · exact Ends.st (s_icmp_ge_t hd h ho hp) (ht h)
  · exact Ends.st (s_icmp_ge_f hd (Classical.not_not.mp h)) (hf (Classical.not_not.mp h))
theorem Ends.if_ge {o : Int} {x : Int32} (hd : decode bytes pc = .ok (.ifCond .ge o, 3)) (ho : 0 ≤ (pc : Int) + o) (hp : ((pc : Int) + o).toNat = pc') (ht : ¬ x < 0 → Ends l Z K ρ own mn bytes ml R ret (pc', L, S, A, c, n) v A') (hf : x < 0 → Ends l Z K ρ own mn bytes ml R ret (pc + 3, L, S, A, c, n) v A') : Ends l Z K ρ own mn bytes ml R ret (pc, L, .int x :: S, A, c, n) v A' := by
  by_cases h : ¬ x < 0
  · exact Ends.st (s_if_ge_t hd h ho hp) (ht h)
  · exact Ends.st (s_if_ge_f hd (Classical.not_not.mp h)) (hf (Classical.not_not.mp h))
theorem Sim.icmp_ge {q : oS} {o : Int} {x y : Int32} (hd : decode bytes pc = .ok (.if_icmp .ge o, 3)) (ho : 0 ≤ (pc : Int) + o) (hp : ((pc : Int) + o).toNat = pc') (ht : ¬ x < y → Sim l Z K ρ own mn bytes ml R (pc', L, S, A, c, n) q) (hf : x < y → Sim l Z K ρ own mn bytes ml R (pc + 3, L, S, A, c, n) q) : Sim l Z K ρ own mn bytes ml R (pc, L, .int y :: .int x :: S, A, c, n) q := by
  by_cases h : ¬ x < y
  · exact Sim.tr (s_icmp_ge_t hd h ho hp) (ht h)
  · exact Sim.tr (s_icmp_ge_f hd (Classical.not_not.mp h)) (hf (Classical.not_not.mp h))
theorem Sim.if_ge {q : oS} {o : Int} {x : Int32} (hd : decode bytes pc = .ok (.ifCond .ge o, 3)) (ho : 0 ≤ (pc : Int) + o) (hp : ((pc : Int) + o).toNat = pc') (ht : ¬ x < 0 → Sim l Z K ρ own mn bytes ml R (pc', L, S, A, c, n) q) (hf : x < 0 → Sim l Z K ρ own mn bytes ml R (pc + 3, L, S, A, c, n) q) : Sim l Z K ρ own mn bytes ml R (pc, L, .int x :: S, A, c, n) q := by
  by_cases h : ¬ x < 0
  · exact Sim.tr (s_if_ge_t hd h ho hp) (ht h)
  · exact Sim.tr (s_if_ge_f hd (Classical.not_not.mp h)) (hf (Classical.not_not.mp h))
theorem EndsE.icmp_ge {o : Int} {x y : Int32} (hd : decode bytes pc = .ok (.if_icmp .ge o, 3)) (ho : 0 ≤ (pc : Int) + o) (hp : ((pc : Int) + o).toNat = pc') (ht : ¬ x < y → EndsE l Z K ρ own mn bytes ml R ret (pc', L, S, A, c, n) v) (hf : x < y → EndsE l Z K ρ own mn bytes ml R ret (pc + 3, L, S, A, c, n) v) : EndsE l Z K ρ own mn bytes ml R ret (pc, L, .int y :: .int x :: S, A, c, n) v := by
  by_cases h : ¬ x < y
  · exact EndsE.st (s_icmp_ge_t hd h ho hp) (ht h)
  · exact EndsE.st (s_icmp_ge_f hd (Classical.not_not.mp h)) (hf (Classical.not_not.mp h))
theorem EndsE.if_ge {o : Int} {x : Int32} (hd : decode bytes pc = .ok (.ifCond .ge o, 3)) (ho : 0 ≤ (pc : Int) + o) (hp : ((pc : Int) + o).toNat = pc') (ht : ¬ x < 0 → EndsE l Z K ρ own mn bytes ml R ret (pc', L, S, A, c, n) v) (hf : x < 0 → EndsE l Z K ρ own mn bytes ml R ret (pc + 3, L, S, A, c, n) v) : EndsE l Z K ρ own mn bytes ml R ret (pc, L, .int x :: S, A, c, n) v := by
  by_cases h : ¬ x < 0
  · exact EndsE.st (s_if_ge_t hd h ho hp) (ht h)
  · exact EndsE.st (s_if_ge_f hd (Classical.not_not.mp h)) (hf (Classical.not_not.mp h))
theorem s_icmp_gt_t {o : Int} {x y : Int32} (hd : decode bytes pc = .ok (.if_icmp .gt o, 3)) (h : y < x) (ho : 0 ≤ (pc : Int) + o) (hp : ((pc : Int) + o).toNat = pc') : Sim l Z K ρ own mn bytes ml R (pc, L, .int y :: .int x :: S, A, c, n) (pc', L, S, A, c, n) :=
  Sim.pure rfl fun p e s m args below meth cd T locs X hx hZ hby hown target k => XS.icmpYes X.here hx rfl rfl (hb hby hd) rfl (tlt h).2.2.1 ho hp k
theorem s_icmp_gt_f {o : Int} {x y : Int32} (hd : decode bytes pc = .ok (.if_icmp .gt o, 3)) (h : ¬ y < x) : Sim l Z K ρ own mn bytes ml R (pc, L, .int y :: .int x :: S, A, c, n) (pc + 3, L, S, A, c, n) :=
  Sim.pure rfl fun p e s m args below meth cd T locs X hx hZ hby hown target k => XS.icmpNo X.here hx rfl (hb hby hd) rfl (flt h).2.2.1 k
theorem s_if_gt_t {o : Int} {x : Int32} (hd : decode bytes pc = .ok (.ifCond .gt o, 3)) (h : 0 < x) (ho : 0 ≤ (pc : Int) + o) (hp : ((pc : Int) + o).toNat = pc') : Sim l Z K ρ own mn bytes ml R (pc, L, .int x :: S, A, c, n) (pc', L, S, A, c, n) :=
  Sim.pure rfl fun p e s m args below meth cd T locs X hx hZ hby hown target k => XS.ifYes X.here hx rfl rfl (hb hby hd) rfl ((if0 _ _).trans (tlt h).2.2.1) ho hp k
theorem s_if_gt_f {o : Int} {x : Int32} (hd : decode bytes pc = .ok (.ifCond .gt o, 3)) (h : ¬ 0 < x) : Sim l Z K ρ own mn bytes ml R (pc, L, .int x :: S, A, c, n) (pc + 3, L, S, A, c, n) :=
  Sim.pure rfl fun p e s m args below meth cd T locs X hx hZ hby hown target k => XS.ifNo X.here hx rfl (hb hby hd) rfl ((if0 _ _).trans (flt h).2.2.1) k
theorem Ends.icmp_gt {o : Int} {x y : Int32} (hd : decode bytes pc = .ok (.if_icmp .gt o, 3)) (ho : 0 ≤ (pc : Int) + o) (hp : ((pc : Int) + o).toNat = pc') (ht : y < x → Ends l Z K ρ own mn bytes ml R ret (pc', L, S, A, c, n) v A') (hf : ¬ y < x → Ends l Z K ρ own mn bytes ml R ret (pc + 3, L, S, A, c, n) v A') : Ends l Z K ρ own mn bytes ml R ret (pc, L, .int y :: .int x :: S, A, c, n) v A' := by
  by_cases h : y < x
  · exact Ends.st (s_icmp_gt_t hd h ho hp) (ht h)
  · exact Ends.st (s_icmp_gt_f hd h) (hf h)
theorem Ends.if_gt {o : Int} {x : Int32} (hd : decode bytes pc = .ok (.ifCond .gt o, 3)) (ho : 0 ≤ (pc : Int) + o) (hp : ((pc : Int) + o).toNat = pc') (ht : 0 < x → Ends l Z K ρ own mn bytes ml R ret (pc', L, S, A, c, n) v A') (hf : ¬ 0 < x → Ends l Z K ρ own mn bytes ml R ret (pc + 3, L, S, A, c, n) v A') : Ends l Z K ρ own mn bytes ml R ret (pc, L, .int x :: S, A, c, n) v A' := by
  by_cases h : 0 < x
  · exact Ends.st (s_if_gt_t hd h ho hp) (ht h)
  · exact Ends.st (s_if_gt_f hd h) (hf h)
theorem Sim.icmp_gt {q : oS} {o : Int} {x y : Int32} (hd : decode bytes pc = .ok (.if_icmp .gt o, 3)) (ho : 0 ≤ (pc : Int) + o) (hp : ((pc : Int) + o).toNat = pc') (ht : y < x → Sim l Z K ρ own mn bytes ml R (pc', L, S, A, c, n) q) (hf : ¬ y < x → Sim l Z K ρ own mn bytes ml R (pc + 3, L, S, A, c, n) q) : Sim l Z K ρ own mn bytes ml R (pc, L, .int y :: .int x :: S, A, c, n) q := by
  by_cases h : y < x
  · exact Sim.tr (s_icmp_gt_t hd h ho hp) (ht h)
  · exact Sim.tr (s_icmp_gt_f hd h) (hf h)
theorem Sim.if_gt {q : oS} {o : Int} {x : Int32} (hd : decode bytes pc = .ok (.ifCond .gt o, 3)) (ho : 0 ≤ (pc : Int) + o) (hp : ((pc : Int) + o).toNat = pc') (ht : 0 < x → Sim l Z K ρ own mn bytes ml R (pc', L, S, A, c, n) q) (hf : ¬ 0 < x → Sim l Z K ρ own mn bytes ml R (pc + 3, L, S, A, c, n) q) : Sim l Z K ρ own mn bytes ml R (pc, L, .int x :: S, A, c, n) q := by
  by_cases h : 0 < x
  · exact Sim.tr (s_if_gt_t hd h ho hp) (ht h)
  · exact Sim.tr (s_if_gt_f hd h) (hf h)
theorem EndsE.icmp_gt {o : Int} {x y : Int32} (hd : decode bytes pc = .ok (.if_icmp .gt o, 3)) (ho : 0 ≤ (pc : Int) + o) (hp : ((pc : Int) + o).toNat = pc') (ht : y < x → EndsE l Z K ρ own mn bytes ml R ret (pc', L, S, A, c, n) v) (hf : ¬ y < x → EndsE l Z K ρ own mn bytes ml R ret (pc + 3, L, S, A, c, n) v) : EndsE l Z K ρ own mn bytes ml R ret (pc, L, .int y :: .int x :: S, A, c, n) v := by
  by_cases h : y < x
  · exact EndsE.st (s_icmp_gt_t hd h ho hp) (ht h)
  · exact EndsE.st (s_icmp_gt_f hd h) (hf h)
theorem EndsE.if_gt {o : Int} {x : Int32} (hd : decode bytes pc = .ok (.ifCond .gt o, 3)) (ho : 0 ≤ (pc : Int) + o) (hp : ((pc : Int) + o).toNat = pc') (ht : 0 < x → EndsE l Z K ρ own mn bytes ml R ret (pc', L, S, A, c, n) v) (hf : ¬ 0 < x → EndsE l Z K ρ own mn bytes ml R ret (pc + 3, L, S, A, c, n) v) : EndsE l Z K ρ own mn bytes ml R ret (pc, L, .int x :: S, A, c, n) v := by
  by_cases h : 0 < x
  · exact EndsE.st (s_if_gt_t hd h ho hp) (ht h)
  · exact EndsE.st (s_if_gt_f hd h) (hf h)
theorem s_icmp_le_t {o : Int} {x y : Int32} (hd : decode bytes pc = .ok (.if_icmp .le o, 3)) (h : ¬ y < x) (ho : 0 ≤ (pc : Int) + o) (hp : ((pc : Int) + o).toNat = pc') : Sim l Z K ρ own mn bytes ml R (pc, L, .int y :: .int x :: S, A, c, n) (pc', L, S, A, c, n) :=
  Sim.pure rfl fun p e s m args below meth cd T locs X hx hZ hby hown target k => XS.icmpYes X.here hx rfl rfl (hb hby hd) rfl (flt h).2.2.2 ho hp k
theorem s_icmp_le_f {o : Int} {x y : Int32} (hd : decode bytes pc = .ok (.if_icmp .le o, 3)) (h : y < x) : Sim l Z K ρ own mn bytes ml R (pc, L, .int y :: .int x :: S, A, c, n) (pc + 3, L, S, A, c, n) :=
  Sim.pure rfl fun p e s m args below meth cd T locs X hx hZ hby hown target k => XS.icmpNo X.here hx rfl (hb hby hd) rfl (tlt h).2.2.2 k
theorem s_if_le_t {o : Int} {x : Int32} (hd : decode bytes pc = .ok (.ifCond .le o, 3)) (h : ¬ 0 < x) (ho : 0 ≤ (pc : Int) + o) (hp : ((pc : Int) + o).toNat = pc') : Sim l Z K ρ own mn bytes ml R (pc, L, .int x :: S, A, c, n) (pc', L, S, A, c, n) :=
  Sim.pure rfl fun p e s m args below meth cd T locs X hx hZ hby hown target k => XS.ifYes X.here hx rfl rfl (hb hby hd) rfl ((if0 _ _).trans (flt h).2.2.2) ho hp k
theorem s_if_le_f {o : Int} {x : Int32} (hd : decode bytes pc = .ok (.ifCond .le o, 3)) (h : 0 < x) : Sim l Z K ρ own mn bytes ml R (pc, L, .int x :: S, A, c, n) (pc + 3, L, S, A, c, n) :=
  Sim.pure rfl fun p e s m args below meth cd T locs X hx hZ hby hown target k => XS.ifNo X.here hx rfl (hb hby hd) rfl ((if0 _ _).trans (tlt h).2.2.2) k
theorem Ends.icmp_le {o : Int} {x y : Int32} (hd : decode bytes pc = .ok (.if_icmp .le o, 3)) (ho : 0 ≤ (pc : Int) + o) (hp : ((pc : Int) + o).toNat = pc') (ht : ¬ y < x → Ends l Z K ρ own mn bytes ml R ret (pc', L, S, A, c, n) v A') (hf : y < x → Ends l Z K ρ own mn bytes ml R ret (pc + 3, L, S, A, c, n) v A') : Ends l Z K ρ own mn bytes ml R ret (pc, L, .int y :: .int x :: S, A, c, n) v A' := by
  by_cases h : ¬ y < x
  · exact Ends.st (s_icmp_le_t hd h ho hp) (ht h)
  · exact Ends.st (s_icmp_le_f hd (Classical.not_not.mp h)) (hf (Classical.not_not.mp h))
theorem Ends.if_le {o : Int} {x : Int32} (hd : decode bytes pc = .ok (.ifCond .le o, 3)) (ho : 0 ≤ (pc : Int) + o) (hp : ((pc : Int) + o).toNat = pc') (ht : ¬ 0 < x → Ends l Z K ρ own mn bytes ml R ret (pc', L, S, A, c, n) v A') (hf : 0 < x → Ends l Z K ρ own mn bytes ml R ret (pc + 3, L, S, A, c, n) v A') : Ends l Z K ρ own mn bytes ml R ret (pc, L, .int x :: S, A, c, n) v A' := by
  by_cases h : ¬ 0 < x
  · exact Ends.st (s_if_le_t hd h ho hp) (ht h)
  · exact Ends.st (s_if_le_f hd (Classical.not_not.mp h)) (hf (Classical.not_not.mp h))
theorem Sim.icmp_le {q : oS} {o : Int} {x y : Int32} (hd : decode bytes pc = .ok (.if_icmp .le o, 3)) (ho : 0 ≤ (pc : Int) + o) (hp : ((pc : Int) + o).toNat = pc') (ht : ¬ y < x → Sim l Z K ρ own mn bytes ml R (pc', L, S, A, c, n) q) (hf : y < x → Sim l Z K ρ own mn bytes ml R (pc + 3, L, S, A, c, n) q) : Sim l Z K ρ own mn bytes ml R (pc, L, .int y :: .int x :: S, A, c, n) q := by
  by_cases h : ¬ y < x
  · exact Sim.tr (s_icmp_le_t hd h ho hp) (ht h)
  · exact Sim.tr (s_icmp_le_f hd (Classical.not_not.mp h)) (hf (Classical.not_not.mp h))
theorem Sim.if_le {q : oS} {o : Int} {x : Int32} (hd : decode bytes pc = .ok (.ifCond .le o, 3)) (ho : 0 ≤ (pc : Int) + o) (hp : ((pc : Int) + o).toNat = pc') (ht : ¬ 0 < x → Sim l Z K ρ own mn bytes ml R (pc', L, S, A, c, n) q) (hf : 0 < x → Sim l Z K ρ own mn bytes ml R (pc + 3, L, S, A, c, n) q) : Sim l Z K ρ own mn bytes ml R (pc, L, .int x :: S, A, c, n) q := by
  by_cases h : ¬ 0 < x
  · exact Sim.tr (s_if_le_t hd h ho hp) (ht h)
  · exact Sim.tr (s_if_le_f hd (Classical.not_not.mp h)) (hf (Classical.not_not.mp h))
theorem EndsE.icmp_le {o : Int} {x y : Int32} (hd : decode bytes pc = .ok (.if_icmp .le o, 3)) (ho : 0 ≤ (pc : Int) + o) (hp : ((pc : Int) + o).toNat = pc') (ht : ¬ y < x → EndsE l Z K ρ own mn bytes ml R ret (pc', L, S, A, c, n) v) (hf : y < x → EndsE l Z K ρ own mn bytes ml R ret (pc + 3, L, S, A, c, n) v) : EndsE l Z K ρ own mn bytes ml R ret (pc, L, .int y :: .int x :: S, A, c, n) v := by
  by_cases h : ¬ y < x
  · exact EndsE.st (s_icmp_le_t hd h ho hp) (ht h)
  · exact EndsE.st (s_icmp_le_f hd (Classical.not_not.mp h)) (hf (Classical.not_not.mp h))
theorem EndsE.if_le {o : Int} {x : Int32} (hd : decode bytes pc = .ok (.ifCond .le o, 3)) (ho : 0 ≤ (pc : Int) + o) (hp : ((pc : Int) + o).toNat = pc') (ht : ¬ 0 < x → EndsE l Z K ρ own mn bytes ml R ret (pc', L, S, A, c, n) v) (hf : 0 < x → EndsE l Z K ρ own mn bytes ml R ret (pc + 3, L, S, A, c, n) v) : EndsE l Z K ρ own mn bytes ml R ret (pc, L, .int x :: S, A, c, n) v := by
  by_cases h : ¬ 0 < x
  · exact EndsE.st (s_if_le_t hd h ho hp) (ht h)
  · exact EndsE.st (s_if_le_f hd (Classical.not_not.mp h)) (hf (Classical.not_not.mp h))
theorem s_ifnull_t {o : Int} (hd : decode bytes pc = .ok (.ifnull o, 3)) (ho : 0 ≤ (pc : Int) + o) (hp : ((pc : Int) + o).toNat = pc') : Sim l Z K ρ own mn bytes ml R (pc, L, .null :: S, A, c, n) (pc', L, S, A, c, n) :=
  Sim.pure rfl fun p e s m args below meth cd T locs X hx hZ hby hown target k => XS.ifnullYes X.here hx rfl rfl (hb hby hd) rfl ho hp k
theorem s_ifnull_f {o : Int} {j : Addr} (hd : decode bytes pc = .ok (.ifnull o, 3)) : Sim l Z K ρ own mn bytes ml R (pc, L, .ref j :: S, A, c, n) (pc + 3, L, S, A, c, n) :=
  Sim.pure rfl fun p e s m args below meth cd T locs X hx hZ hby hown target k => XS.ifnullNo X.here hx rfl (hb hby hd) rfl k
theorem oRep.arr {h : Heap} {j : Nat} {ty : FieldType} {vs : List Value} (H : oRep Z K ρ h A) (hA : A[j]? = some (.inr (ty, vs))) : (vs.length < 2 ^ 31 ∧ ∀ w ∈ vs, fits ty (ov ρ w) = true) ∧ ∃ cl : Cell, Arr Z h (ρ.1 j) cl ty ∧ cl.slots = (vs.map (ov ρ)).toArray := H.2 j _ hA
theorem oin {cl : Cell} {vs : List Value} {i : Int32} {w : Value} (e : cl.slots = (vs.map (ov ρ)).toArray) (h0 : ¬ i < 0) (hv : vs[i.toNatClampNeg]? = some w) : ¬ (i < 0 ∨ cl.slots.size ≤ i.toNatClampNeg) ∧ cl.slots[i.toNatClampNeg]? = some (ov ρ w) := by
  have hi := (List.getElem?_eq_some_iff.mp hv).1
  refine ⟨fun q => q.elim h0 fun q => ?_, ?_⟩
  · rw [e] at q; simp at q; omega
  · rw [e]; simp [hv]
theorem olen {vs : List Value} (h : vs.length < 2 ^ 31) {cl : Cell} (e : cl.slots = (vs.map (ov ρ)).toArray) : cl.slots.size.toInt32 = Int32.ofNat vs.length := by
  rw [e]; simp [Nat.toInt32]
theorem s_arraylength {j : Addr} {ty : FieldType} {vs : List Value} (hd : decode bytes pc = .ok (.arraylength, 1)) (hA : A[j]? = some (.inr (ty, vs))) : Sim l Z K ρ own mn bytes ml R (pc, L, .ref j :: S, A, c, n) (pc + 1, L, .int (Int32.ofNat vs.length) :: S, A, c, n) :=
  fun p e s m args below meth cd T locs X hx hZ hby hml hown hnm hR hF hL => by
    obtain ⟨h1, cl, h2, h3⟩ := hR.arr hA
    exact ⟨T, locs, X, hR, hF, hL, fun target k => X.arraylength hx h2.1 (State.isArrayOf_alike hZ.alike h2.2.1) (g := oF ρ m (pc, L, .ref j :: S, A, c, n)) rfl rfl (hb hby hd) target (by rw [olen h1.1 h3]; exact k)⟩
theorem s_iaload {j : Addr} {vs : List Value} {i : Int32} {w : Value} (hd : decode bytes pc = .ok (.iaload, 1)) (hA : A[j]? = some (.inr (.int, vs))) (h0 : ¬ i < 0) (hv : vs[i.toNatClampNeg]? = some w) : Sim l Z K ρ own mn bytes ml R (pc, L, .int i :: .ref j :: S, A, c, n) (pc + 1, L, w :: S, A, c, n) :=
  fun p e s m args below meth cd T locs X hx hZ hby hml hown hnm hR hF hL => by
    obtain ⟨h1, cl, h2, h3⟩ := hR.arr hA
    obtain ⟨q1, q2⟩ := oin h3 h0 hv
    exact ⟨T, locs, X, hR, hF, hL, fun target k => X.iaload hx h2.1 (State.isArrayOf_alike hZ.alike h2.2.1) h2.2.2 q1 q2 (g := oF ρ m (pc, L, .int i :: .ref j :: S, A, c, n)) rfl rfl (hb hby hd) target k⟩
theorem s_laload {j : Addr} {vs : List Value} {i : Int32} {w : Value} (hd : decode bytes pc = .ok (.laload, 1)) (hA : A[j]? = some (.inr (.long, vs))) (h0 : ¬ i < 0) (hv : vs[i.toNatClampNeg]? = some w) : Sim l Z K ρ own mn bytes ml R (pc, L, .int i :: .ref j :: S, A, c, n) (pc + 1, L, w :: S, A, c, n) :=
  fun p e s m args below meth cd T locs X hx hZ hby hml hown hnm hR hF hL => by
    obtain ⟨h1, cl, h2, h3⟩ := hR.arr hA
    obtain ⟨q1, q2⟩ := oin h3 h0 hv
    exact ⟨T, locs, X, hR, hF, hL, fun target k => X.laload hx h2.1 (State.isArrayOf_alike hZ.alike h2.2.1) h2.2.2 q1 q2 (g := oF ρ m (pc, L, .int i :: .ref j :: S, A, c, n)) rfl rfl (hb hby hd) target k⟩
theorem s_baload {j : Addr} {vs : List Value} {i : Int32} {w : Value} (hd : decode bytes pc = .ok (.baload, 1)) (hA : A[j]? = some (.inr (.byte, vs))) (h0 : ¬ i < 0) (hv : vs[i.toNatClampNeg]? = some w) : Sim l Z K ρ own mn bytes ml R (pc, L, .int i :: .ref j :: S, A, c, n) (pc + 1, L, w :: S, A, c, n) :=
  fun p e s m args below meth cd T locs X hx hZ hby hml hown hnm hR hF hL => by
    obtain ⟨h1, cl, h2, h3⟩ := hR.arr hA
    obtain ⟨q1, q2⟩ := oin h3 h0 hv
    exact ⟨T, locs, X, hR, hF, hL, fun target k => X.baloadBytes hx h2.1 (State.isArrayOf_alike hZ.alike h2.2.1) h2.2.2 q1 q2 (g := oF ρ m (pc, L, .int i :: .ref j :: S, A, c, n)) rfl rfl (hb hby hd) target k⟩
theorem s_caload {j : Addr} {vs : List Value} {i : Int32} {w : Value} (hd : decode bytes pc = .ok (.caload, 1)) (hA : A[j]? = some (.inr (.char, vs))) (h0 : ¬ i < 0) (hv : vs[i.toNatClampNeg]? = some w) : Sim l Z K ρ own mn bytes ml R (pc, L, .int i :: .ref j :: S, A, c, n) (pc + 1, L, w :: S, A, c, n) :=
  fun p e s m args below meth cd T locs X hx hZ hby hml hown hnm hR hF hL => by
    obtain ⟨h1, cl, h2, h3⟩ := hR.arr hA
    obtain ⟨q1, q2⟩ := oin h3 h0 hv
    exact ⟨T, locs, X, hR, hF, hL, fun target k => X.caload hx h2.1 (State.isArrayOf_alike hZ.alike h2.2.1) h2.2.2 q1 q2 (g := oF ρ m (pc, L, .int i :: .ref j :: S, A, c, n)) rfl rfl (hb hby hd) target k⟩
theorem s_aaload {j : Addr} {vs : List Value} {i : Int32} {w : Value} {ty : FieldType} (hd : decode bytes pc = .ok (.aaload, 1)) (hA : A[j]? = some (.inr (ty, vs))) (hty : ty.isReference = true) (h0 : ¬ i < 0) (hv : vs[i.toNatClampNeg]? = some w) : Sim l Z K ρ own mn bytes ml R (pc, L, .int i :: .ref j :: S, A, c, n) (pc + 1, L, w :: S, A, c, n) :=
  fun p e s m args below meth cd T locs X hx hZ hby hml hown hnm hR hF hL => by
    obtain ⟨h1, cl, h2, h3⟩ := hR.arr hA
    obtain ⟨q1, q2⟩ := oin h3 h0 hv
    exact ⟨T, locs, X, hR, hF, hL, fun target k => X.aaload hx h2.1 (State.isArrayOf_alike hZ.alike h2.2.1) hty h2.2.2 q1 q2 (g := oF ρ m (pc, L, .int i :: .ref j :: S, A, c, n)) rfl rfl (hb hby hd) target k⟩
theorem oRep.arrSet {h h' : Heap} {j : Nat} {ty : FieldType} {vs : List Value} {i : Nat} {w : Value} (H : oRep Z K ρ h A) (hA : A[j]? = some (.inr (ty, vs))) (hft : fits ty (ov ρ w) = true) (W : Wr h h' (ρ.1 j) i (ov ρ w)) : oRep Z K ρ h' (A.set j (.inr (ty, vs.set i w))) := by
  obtain ⟨h1, cl, h2, h3⟩ := H.arr hA
  refine H.wr W ⟨⟨by simpa using h1.1, fun u hu => (List.mem_or_eq_of_mem_set hu).elim (h1.2 u) (fun q => q ▸ hft)⟩, cl.setSlot i (ov ρ w), h2.same W, ?_⟩
  show cl.slots.setIfInBounds i (ov ρ w) = _
  rw [h3]; simp
theorem s_iastore {j : Addr} {vs : List Value} {i : Int32} {x : Int32} (hd : decode bytes pc = .ok (.iastore, 1)) (hA : A[j]? = some (.inr (.int, vs))) (h0 : ¬ i < 0) (hi : i.toNatClampNeg < vs.length) (hA' : A.set j (.inr (.int, vs.set i.toNatClampNeg (.int x))) = A') : Sim l Z K ρ own mn bytes ml R (pc, L, .int x :: .int i :: .ref j :: S, A, c, n) (pc + 1, L, S, A', c, n) :=
  fun p e s m args below meth cd T locs X hx hZ hby hml hown hnm hR hF hL => by
    obtain ⟨h1, cl, h2, h3⟩ := hR.arr hA
    have q1 : ¬ (i < 0 ∨ cl.slots.size ≤ i.toNatClampNeg) := fun q => q.elim h0 fun q => by rw [h3] at q; simp at q; omega
    obtain ⟨T', h', X', e', W, st⟩ := stI X hx hZ rfl h2 q1 (g := oF ρ m (pc, L, .int x :: .int i :: .ref j :: S, A, c, n)) rfl rfl (hb hby hd)
    subst e' hA'
    exact ⟨T', _, X', hR.arrSet (w := .int x) hA rfl W, Fr.snoc X' hF (hR.ge j), hL, st⟩
theorem s_lastore {j : Addr} {vs : List Value} {i : Int32} {x : Int64} (hd : decode bytes pc = .ok (.lastore, 1)) (hA : A[j]? = some (.inr (.long, vs))) (h0 : ¬ i < 0) (hi : i.toNatClampNeg < vs.length) (hA' : A.set j (.inr (.long, vs.set i.toNatClampNeg (.long x))) = A') : Sim l Z K ρ own mn bytes ml R (pc, L, .long x :: .int i :: .ref j :: S, A, c, n) (pc + 1, L, S, A', c, n) :=
  fun p e s m args below meth cd T locs X hx hZ hby hml hown hnm hR hF hL => by
    obtain ⟨h1, cl, h2, h3⟩ := hR.arr hA
    have q1 : ¬ (i < 0 ∨ cl.slots.size ≤ i.toNatClampNeg) := fun q => q.elim h0 fun q => by rw [h3] at q; simp at q; omega
    obtain ⟨T', h', X', e', W, st⟩ := stJ X hx hZ rfl h2 q1 (g := oF ρ m (pc, L, .long x :: .int i :: .ref j :: S, A, c, n)) rfl rfl (hb hby hd)
    subst e' hA'
    exact ⟨T', _, X', hR.arrSet (w := .long x) hA rfl W, Fr.snoc X' hF (hR.ge j), hL, st⟩
theorem s_bastore {j : Addr} {vs : List Value} {i : Int32} {x : Int32} (hd : decode bytes pc = .ok (.bastore, 1)) (hA : A[j]? = some (.inr (.byte, vs))) (h0 : ¬ i < 0) (hi : i.toNatClampNeg < vs.length) (hA' : A.set j (.inr (.byte, vs.set i.toNatClampNeg (.int x.toInt8.toInt32))) = A') : Sim l Z K ρ own mn bytes ml R (pc, L, .int x :: .int i :: .ref j :: S, A, c, n) (pc + 1, L, S, A', c, n) :=
  fun p e s m args below meth cd T locs X hx hZ hby hml hown hnm hR hF hL => by
    obtain ⟨h1, cl, h2, h3⟩ := hR.arr hA
    have q1 : ¬ (i < 0 ∨ cl.slots.size ≤ i.toNatClampNeg) := fun q => q.elim h0 fun q => by rw [h3] at q; simp at q; omega
    obtain ⟨T', h', X', e', W, st⟩ := stB X hx hZ rfl h2 q1 (g := oF ρ m (pc, L, .int x :: .int i :: .ref j :: S, A, c, n)) rfl rfl (hb hby hd)
    subst e' hA'
    exact ⟨T', _, X', hR.arrSet (w := .int x.toInt8.toInt32) hA (fits_nar_byte x) W, Fr.snoc X' hF (hR.ge j), hL, st⟩
theorem s_castore {j : Addr} {vs : List Value} {i : Int32} {x : Int32} (hd : decode bytes pc = .ok (.castore, 1)) (hA : A[j]? = some (.inr (.char, vs))) (h0 : ¬ i < 0) (hi : i.toNatClampNeg < vs.length) (hA' : A.set j (.inr (.char, vs.set i.toNatClampNeg (.int (nar .char x)))) = A') : Sim l Z K ρ own mn bytes ml R (pc, L, .int x :: .int i :: .ref j :: S, A, c, n) (pc + 1, L, S, A', c, n) :=
  fun p e s m args below meth cd T locs X hx hZ hby hml hown hnm hR hF hL => by
    obtain ⟨h1, cl, h2, h3⟩ := hR.arr hA
    have q1 : ¬ (i < 0 ∨ cl.slots.size ≤ i.toNatClampNeg) := fun q => q.elim h0 fun q => by rw [h3] at q; simp at q; omega
    obtain ⟨T', h', X', e', W, st⟩ := stC X hx hZ rfl h2 q1 (g := oF ρ m (pc, L, .int x :: .int i :: .ref j :: S, A, c, n)) rfl rfl (hb hby hd)
    subst e' hA'
    exact ⟨T', _, X', hR.arrSet (w := .int (nar .char x)) hA (fits_nar_char x) W, Fr.snoc X' hF (hR.ge j), hL, st⟩
theorem oRep.obj {h : Heap} {j cid : Nat} {vs : List Value} (H : oRep Z K ρ h A) (hA : A[j]? = some (.inl (cid, vs))) : Exa Z h (ρ.1 j) (K cid).1 ∧ ∀ (i : Nat) (f : String × String × String) (v : Value), (K cid).2[i]? = some f → vs[i]? = some v → Fld Z h (ρ.1 j) f.1 f.2.1 f.2.2 (ov ρ v) := H.2 j _ hA
theorem s_getfield {j : Addr} {cid i x : Nat} {vs : List Value} {w : Value} {O nm d : String} (wl : (Jvm.Cond.fieldLink own x O nm d).before a0 Z = true) (hf : (K cid).2[i]? = some (O, nm, d)) (hd : decode bytes pc = .ok (.getfield x, 3)) (hA : A[j]? = some (.inl (cid, vs))) (hv : vs[i]? = some w) : Sim l Z K ρ own mn bytes ml R (pc, L, .ref j :: S, A, c, n) (pc + 3, L, w :: S, A, c, n) :=
  fun p e s m args below meth cd T locs X hx hZ hby hml hown hnm hR hF hL => by
    have F := (hR.obj hA).2 i _ _ hf hv
    obtain ⟨T', X', e', st⟩ := getF X hx hZ hown (host := "") (Or.inl wl) Via.refl rfl F (g := oF ρ m (pc, L, .ref j :: S, A, c, n)) rfl rfl (hb hby hd)
    exact ⟨T', locs, X', by rw [e']; exact hR, hF, hL, st⟩
theorem oRep.fldSet {h h' : Heap} {j cid i : Nat} {vs : List Value} {f : String × String × String} {w old : Value} (H : oRep Z K ρ h A) (hK : oKOk Z a0 K cid) (hA : A[j]? = some (.inl (cid, vs))) (hf : (K cid).2[i]? = some f) (ho : vs[i]? = some old) (W : Wr h h' (ρ.1 j) (Jvm.RoadKit.slotOf Z f.1 f.2.1 f.2.2) (ov ρ w)) : oRep Z K ρ h' (A.set j (.inl (cid, vs.set i w))) := by
  obtain ⟨h1, h2⟩ := H.obj hA
  refine H.wr W ⟨h1.wr W, fun k g u hg hu => ?_⟩
  by_cases q : k = i
  · subst q
    have hg' : (K cid).2[k]? = some g := hg
    rw [hf] at hg'; cases hg'
    have hu' : (vs.set k w)[k]? = some u := hu
    rw [List.getElem?_set_self (List.getElem?_eq_some_iff.mp ho).1] at hu'; cases hu'
    exact (h2 k f old hf ho).same W
  · have hu' : (vs.set i w)[k]? = some u := hu
    rw [List.getElem?_set_ne (Ne.symm q)] at hu'
    have hg' : (K cid).2[k]? = some g := hg
    obtain ⟨l1, t1, p1⟩ := hK.1.at k g hg'
    obtain ⟨l2, t2, p2⟩ := hK.1.at i f hf
    exact (h2 k g u hg' hu').other W (Or.inr (slot_ne l1 l2 (hK.2 k i g f hg' hf q) p1 p2))
theorem s_putfield {j : Addr} {cid i x kk : Nat} {vs : List Value} {w old : Value} {O nm d : String} {ty : FieldType} (wl : (Jvm.Cond.fieldLink own x O nm d).before a0 Z = true) (hK : oKOk Z a0 K cid) (hf : (K cid).2[i]? = some (O, nm, d))
    (lay : (Jvm.Cond.lays (K cid).1 O nm d).before a0 Z = true ∨ ((Jvm.Cond.laysFinal (K cid).1 O nm d).before a0 Z = true ∧ own = O ∧ mn = "<init>")) (wi : (Jvm.Cond.instantiable (K cid).1 kk).before a0 Z = true) (hty : parseFieldDescriptor d = some ty) (hn : narrow ty (ov ρ w) = ov ρ w) (hft : fits ty (ov ρ w) = true)
    (hd : decode bytes pc = .ok (.putfield x, 3)) (hA : A[j]? = some (.inl (cid, vs))) (ho : vs[i]? = some old) (hA' : A.set j (.inl (cid, vs.set i w)) = A') : Sim l Z K ρ own mn bytes ml R (pc, L, w :: .ref j :: S, A, c, n) (pc + 3, L, S, A', c, n) :=
  fun p e s m args below meth cd T locs X hx hZ hby hml hown hnm hR hF hL => by
    have F := (hR.obj hA).2 i _ _ hf ho
    obtain ⟨T', h', X', e', W, st⟩ := putF X hx hZ hown (host := "") (Or.inl wl) Via.refl rfl F (hR.obj hA).1 (lay.imp id fun q => ⟨q.1, q.2.1, hnm.trans q.2.2⟩) wi hty hn hft (g := oF ρ m (pc, L, w :: .ref j :: S, A, c, n)) rfl rfl (hb hby hd)
    subst e' hA'
    exact ⟨T', _, X', hR.fldSet hK hA hf ho W, Fr.snoc X' hF (hR.ge j), hL, st⟩
theorem s_putfieldZ {j : Addr} {cid i x kk : Nat} {vs : List Value} {u u' : Int32} {old : Value} {O nm : String} (wl : (Jvm.Cond.fieldLink own x O nm "Z").before a0 Z = true) (hK : oKOk Z a0 K cid) (hf : (K cid).2[i]? = some (O, nm, "Z"))
    (lay : (Jvm.Cond.lays (K cid).1 O nm "Z").before a0 Z = true ∨ ((Jvm.Cond.laysFinal (K cid).1 O nm "Z").before a0 Z = true ∧ own = O ∧ mn = "<init>")) (wi : (Jvm.Cond.instantiable (K cid).1 kk).before a0 Z = true) (hu : u &&& 1 = u')
    (hd : decode bytes pc = .ok (.putfield x, 3)) (hA : A[j]? = some (.inl (cid, vs))) (ho : vs[i]? = some old) (hA' : A.set j (.inl (cid, vs.set i (.int u'))) = A') : Sim l Z K ρ own mn bytes ml R (pc, L, .int u :: .ref j :: S, A, c, n) (pc + 3, L, S, A', c, n) :=
  fun p e s m args below meth cd T locs X hx hZ hby hml hown hnm hR hF hL => by
    have F := (hR.obj hA).2 i _ _ hf ho
    obtain ⟨T', h', X', e', W, st⟩ := putFN X hx hZ hown wl Via.refl rfl F (hR.obj hA).1 (lay.imp id fun q => ⟨q.1, q.2.1, hnm.trans q.2.2⟩) wi (ty := .boolean) (v' := .int (nar .boolean u)) (by decide) rfl (fits_nar_bool u) (g := oF ρ m (pc, L, .int u :: .ref j :: S, A, c, n)) rfl rfl (hb hby hd)
    subst e' hA' hu
    exact ⟨T', _, X', hR.fldSet (w := .int (u &&& 1)) hK hA hf ho W, Fr.snoc X' hF (hR.ge j), hL, st⟩
theorem opush_ext (h : Heap) (cl : Cell) : Ext h (h.push cl) := ⟨by simp, fun a d q => by rw [Array.getElem?_push_lt (Array.getElem?_eq_some_iff.mp q).1]; exact (Array.getElem?_eq_getElem _).symm.trans q⟩
theorem opush_at (h : Heap) (cl : Cell) : (h.push cl)[h.size]? = some cl := by simp
theorem s_new {cid x sz j : Nat} {vs : List Value} (wl : (Jvm.Cond.classLink own x (K cid).1).before a0 Z = true) (wi : (Jvm.Cond.instantiable (K cid).1 sz).before a0 Z = true) (wz : (Jvm.Cond.initialized (K cid).1).before a0 Z = true) (hK : oKOk Z a0 K cid) (hv : oDflt (K cid).2 vs)
    (hd : decode bytes pc = .ok (.new x, 3)) (hj : A.length = j) (hc : c + 1 ≤ R.cells) (hn : n + sz ≤ R.slots) (hA' : A ++ [.inl (cid, vs)] = A') : Sim l Z K ρ own mn bytes ml R (pc, L, S, A, c, n) (pc + 3, L, .ref j :: S, A', c + 1, n + sz) :=
  fun p e s m args below meth cd T locs X hx hZ hby hml hown hnm hR hF hL => by
    obtain ⟨vm', cC, kC, h1, h2, h3, h4, X', st⟩ := X.newCold hx hown (mv hZ wl) (mv hZ wi) (mv hZ wz) (g := oF ρ m (pc, L, S, A, c, n)) rfl (hb hby hd) hc hn
    subst hA' hj
    rw [hZ.alike.findClass] at h1
    obtain ⟨kZ, z1, -⟩ := Vm.findClass_spec h1
    obtain ⟨k', z2, z3⟩ := hZ.alike.2.2 _ _ z1
    cases h2.symm.trans z2
    have ei : kC.instanceTypes = kZ.instanceTypes := by rw [z3]
    have hN := opush_at T.heap { cls := cC, slots := kC.instanceTypes.map defaultValue, vm := .none }
    have hrep := hR.push (opush_ext T.heap { cls := cC, slots := kC.instanceTypes.map defaultValue, vm := .none }) (by simp) (c := .inl (cid, vs)) ⟨⟨_, kZ, hN, h1, z1, rfl, fun _ => by simp [ei]⟩, fun i f w hf hw => by
      obtain ⟨t, ht, rfl⟩ := hv.at i f w hf hw
      obtain ⟨lf, -⟩ := hK.1.at i f hf
      obtain ⟨c1, k1, cf, kf, i', f', a1, a2, a3, a4, a5, a6, -⟩ := lf.spec
      cases h1.symm.trans a1
      cases z1.symm.trans a2
      rw [ov_dflt]
      exact ⟨_, cf, kf, i', f', hN, a3, a4, by simp, rfl, a5, by simp [ei, a6, (State.fieldFound?_type a3 ht).2]⟩⟩
    refine ⟨_, locs, X', hrep, hF, hL, fun target k => st target ?_⟩
    have e0 : T.heap.size = ρ.1 A.length := hR.1.1
    rw [e0]; exact k
theorem s_newarray {aty : ArrayType} {i : Int32} {j q cap : Nat} (w : (Jvm.Cond.arrayClass (newarray.typeOf aty)).before a0 Z = true) (hd : decode bytes pc = .ok (.newarray aty, 2)) (hj : A.length = j) (h0 : ¬ i < 0) (hq : i.toNatClampNeg = q) (hcap : q ≤ cap) (hb8 : cap * 8 ≤ 536870912) (hc : c + 1 ≤ R.cells) (hn : n + cap ≤ R.slots)
    (hA' : A ++ [.inr (newarray.typeOf aty, List.replicate q (defaultValue (newarray.typeOf aty)))] = A') : Sim l Z K ρ own mn bytes ml R (pc, L, .int i :: S, A, c, n) (pc + 2, L, .ref j :: S, A', c + 1, n + cap) :=
  fun p e s m args below meth cd T locs X hx hZ hby hml hown hnm hR hF hL => by
    have hcb : componentBytes (newarray.typeOf aty) ≤ 8 := by cases aty <;> decide
    subst hq
    obtain ⟨cA, kA, comp, h1, h2, h3, X', st⟩ := X.newarrayPrim hx (mvA hZ w) (g := oF ρ m (pc, L, .int i :: S, A, c, n)) rfl (hb hby hd) rfl h0 (Nat.le_trans (Nat.mul_le_mul hcap hcb) hb8) hc (by show n + _ ≤ _; omega)
    subst hA' hj
    rw [hZ.alike.findClass] at h1
    obtain ⟨kZ, z1, -⟩ := Vm.findClass_spec h1
    obtain ⟨k', z2, z3⟩ := hZ.alike.2.2 _ _ z1
    cases h2.symm.trans z2
    have hrep := hR.push (opush_ext T.heap { cls := cA, slots := Array.replicate i.toNatClampNeg (defaultValue (newarray.typeOf aty)), vm := .none }) (by simp) (c := .inr (newarray.typeOf aty, List.replicate i.toNatClampNeg (defaultValue (newarray.typeOf aty)))) ⟨⟨by show (List.replicate _ _).length < 2 ^ 31; rw [List.length_replicate]; omega, fun u hu => by rw [(List.mem_replicate.mp hu).2, ov_dflt]; cases aty <;> rfl⟩, _, ⟨opush_at _ _, ⟨by simp, kZ, z1, comp, by rw [← h3, z3]⟩, by simp⟩, by simp [ov_dflt]⟩
    refine ⟨_, locs, X'.more (Nat.le_refl _) (by show n + _ ≤ n + cap; omega), hrep, hF, hL, fun target k => st target ?_⟩
    have e0 : T.heap.size = ρ.1 A.length := hR.1.1
    rw [e0]; exact k
theorem s_anewarray {C : String} {x : Nat} {i : Int32} {j q : Nat} (w1 : (Jvm.Cond.classLink own x C).before a0 Z = true) (w2 : (Jvm.Cond.arrayOver (.object C)).before a0 Z = true) (hd : decode bytes pc = .ok (.anewarray x, 3)) (hj : A.length = j) (h0 : ¬ i < 0) (hq : i.toNatClampNeg = q) (hb8 : q * 8 ≤ 536870912) (hc : c + 1 ≤ R.cells) (hn : n + q ≤ R.slots)
    (hA' : A ++ [.inr (.object C, List.replicate q .null)] = A') : Sim l Z K ρ own mn bytes ml R (pc, L, .int i :: S, A, c, n) (pc + 3, L, .ref j :: S, A', c + 1, n + q) :=
  fun p e s m args below meth cd T locs X hx hZ hby hml hown hnm hR hF hL => by
    have w2' : (Jvm.Cond.arrayOver (.object C)).before args s = true := Cond.arrayOver_alike hZ.alike w2
    subst hq
    obtain ⟨vm₁, cA, kA, comp, -, h1, h2, h3, h4, X', st⟩ := X.anewarrayRefK hx hown (mv hZ w1) w2' (g := oF ρ m (pc, L, .int i :: S, A, c, n)) rfl (hb hby hd) rfl h0 (by omega) hc hn
    subst hA' hj
    rw [hZ.alike.findClass] at h1
    obtain ⟨kZ, z1, -⟩ := Vm.findClass_spec h1
    obtain ⟨k', z2, z3⟩ := hZ.alike.2.2 _ _ z1
    cases h2.symm.trans z2
    have kk : kZ.kind = .array comp (.object C) := by rw [← h3, z3]
    have hrep := hR.push (opush_ext T.heap { cls := cA, slots := Array.replicate i.toNatClampNeg .null, vm := .none }) (by simp) (c := .inr (.object C, List.replicate i.toNatClampNeg .null)) ⟨⟨by show (List.replicate _ _).length < 2 ^ 31; rw [List.length_replicate]; omega, fun u hu => by rw [(List.mem_replicate.mp hu).2]; rfl⟩, _, ⟨opush_at _ _, ⟨by simp, kZ, z1, comp, kk⟩, by simp⟩, by simp [ov]⟩
    refine ⟨_, locs, X', hrep, hF, hL, fun target k => st target ?_⟩
    have e0 : T.heap.size = ρ.1 A.length := hR.1.1
    rw [e0]; exact k
theorem s_initO {x W : Nat} {j : Addr} (w1 : (Jvm.Cond.methodLink own x Lib.objectInit).before a0 Z = true) (w2 : (Jvm.Cond.instanceMethod Lib.objectInit).before a0 Z = true) (w3 : (Jvm.Cond.code Lib.objectInit ⟨#[0xb1]⟩ 1 none).before a0 Z = true) (hd : decode bytes pc = .ok (.invokespecial x, 3)) (hf : 1 ≤ R.frames) (hW : (S.map fun v => v.category).sum = W) (hl : W + 12 ≤ R.locals) : Sim l Z K ρ own mn bytes ml R (pc, L, .ref j :: S, A, c, n) (pc + 3, L, S, A, c, n) :=
  fun p e s m args below meth cd T locs X hx hZ hby hml hown hnm hR hF hL => by
    obtain ⟨T', X', e', st⟩ := initO X hx hZ hown w1 w2 w3 rfl (g := oF ρ m (pc, L, .ref j :: S, A, c, n)) rfl (by rw [hml, ← hL]; simp) rfl (hb hby hd) hf (W := W) (by rw [← hW]; simp [Function.comp_def, ov_cat]) hl
    exact ⟨T', locs, X', by rw [e']; exact hR, hF, hL, st⟩
theorem ocat (S : List Value) : ((S.map (ov ρ)).map fun v => v.category).sum = (S.map fun v => v.category).sum := by simp [Function.comp_def, ov_cat]
theorem otl (v : Option Value) : (v.map (ov ρ)).toList = v.toList.map (ov ρ) := by cases v <;> rfl
theorem s_callS {x W : Nat} {y : MethodName} {by' : ByteArray} {ml' : Nat} {rt : Option FieldType} {rm : Room} {as : List Value} {S0 : List Value} (w1 : (Jvm.Cond.methodLink own x y).before a0 Z = true) (w2 : (Jvm.Cond.static y).before a0 Z = true) (w3 : (Jvm.Cond.initialized y.cls).before a0 Z = true) (w4 : (Jvm.Cond.code y by' ml' rt).before a0 Z = true)
    (hy : y.cls ≠ "java/lang/invoke/MethodHandle" ∧ y.cls ≠ "java/lang/invoke/VarHandle") (hlen : ∀ sig, parseMethodDescriptor y.desc = some sig → as.length = sig.parameters.length) (hd : decode bytes pc = .ok (.invokestatic x, 3)) (hM : Met l Z K ρ y by' ml' rt rm [] as A v A')
    (hS : S0 = as.reverse ++ S) (hW : (S.map fun v => v.category).sum = W) (hf : rm.frames + 1 ≤ R.frames) (hl : W + (ml' + 11) + rm.locals ≤ R.locals) (hc : c + rm.cells ≤ R.cells) (hn : n + rm.slots ≤ R.slots) : Sim l Z K ρ own mn bytes ml R (pc, L, S0, A, c, n) (pc + 3, L, v.toList ++ S, A', c + rm.cells, n + rm.slots) :=
  fun p e s m args below meth cd T locs X hx hZ hby hml hown hnm hR hF hL => by
    subst hS
    obtain ⟨_, _, ⟨T1, L1, k1, n1⟩, -, X1, ⟨Lc, hQ, l1, y1, z1⟩, st⟩ := Jvm.LawKit.callS X hx (y := y) hown (mvT hZ w1) (mvT hZ w2) (mvT hZ w3) (mvT hZ w4) hy (backOf (W := W) (Q := fun v' h L => v' = v.map (ov ρ) ∧ Fr (ρ.1 0) L ∧ oRep Z K ρ h A') (hM T.heap hR) hZ w4 w3 hf hl) (g := oF ρ m (pc, L, as.reverse ++ S, A, c, n)) rfl (by rw [hml, ← hL]; simp) (argsL := as.map (ov ρ)) (rest := S.map (ov ρ)) (fun sig q => by rw [List.length_map]; exact hlen sig q) (by show (as.reverse ++ S).map (ov ρ) = _; simp) (by show 2 * 0 + _ ≤ _; rw [ocat, hW]; omega) (hb hby hd) (fun _ _ => ⟨rfl, rfl, hc, hn⟩)
    dsimp only [Pt.U, Pt.locs, Pt.cells, Pt.slots] at X1 l1 y1 z1 st hQ
    subst l1 y1 z1
    obtain ⟨rfl, N1, R1⟩ := hQ
    refine ⟨T1, _, X1, R1, Fr.app hF N1, hL, fun target k => st target ?_⟩
    have e : (v.toList ++ S).map (ov ρ) = (v.map (ov ρ)).toList ++ S.map (ov ρ) := by rw [List.map_append, otl]
    rw [← e]; exact k
theorem s_callI {x W : Nat} {y : MethodName} {by' : ByteArray} {ml' : Nat} {rm : Room} {as : List Value} {j : Addr} {S0 : List Value} (hy1 : y.name = "<init>") (w1 : (Jvm.Cond.methodLink own x y).before a0 Z = true) (w2 : (Jvm.Cond.instanceMethod y).before a0 Z = true) (w3 : (Jvm.Cond.initialized y.cls).before a0 Z = true) (w4 : (Jvm.Cond.code y by' ml' none).before a0 Z = true)
    (hy : y.cls ≠ "java/lang/invoke/MethodHandle" ∧ y.cls ≠ "java/lang/invoke/VarHandle") (hlen : ∀ sig, parseMethodDescriptor y.desc = some sig → as.length = sig.parameters.length) (hd : decode bytes pc = .ok (.invokespecial x, 3)) (hM : Met l Z K ρ y by' ml' none rm [] (.ref j :: as) A v A')
    (hS : S0 = as.reverse ++ .ref j :: S) (hW : (S.map fun v => v.category).sum = W) (hf : rm.frames + 1 ≤ R.frames) (hl : W + (ml' + 11) + rm.locals ≤ R.locals) (hc : c + rm.cells ≤ R.cells) (hn : n + rm.slots ≤ R.slots) : Sim l Z K ρ own mn bytes ml R (pc, L, S0, A, c, n) (pc + 3, L, v.toList ++ S, A', c + rm.cells, n + rm.slots) :=
  fun p e s m args below meth cd T locs X hx hZ hby hml hown hnm hR hF hL => by
    subst hS
    obtain ⟨_, _, ⟨T1, L1, k1, n1⟩, -, X1, ⟨Lc, hQ, l1, y1, z1⟩, st⟩ := X.specialBack hx (y := y) hy1 hown (mvT hZ w1) (mvT hZ w2) (mvT hZ w4) hy (backOf (W := W) (Q := fun v' h L => v' = v.map (ov ρ) ∧ Fr (ρ.1 0) L ∧ oRep Z K ρ h A') (hM T.heap hR) hZ w4 w3 hf hl) (g := oF ρ m (pc, L, as.reverse ++ .ref j :: S, A, c, n)) rfl (by rw [hml, ← hL]; simp) (Steps.refl _) (a := ρ.1 j) (argsL := as.map (ov ρ)) (rest := S.map (ov ρ)) (fun sig q => by rw [List.length_map]; exact hlen sig q) (by show (as.reverse ++ .ref j :: S).map (ov ρ) = _; simp [ov]) (by show 2 * 0 + _ ≤ _; rw [ocat, hW]; omega) (hb hby hd) (fun _ _ => ⟨rfl, rfl, hc, hn⟩)
    dsimp only [Pt.U, Pt.locs, Pt.cells, Pt.slots] at X1 l1 y1 z1 st hQ
    subst l1 y1 z1
    obtain ⟨rfl, N1, R1⟩ := hQ
    refine ⟨T1, _, X1, R1, Fr.app hF N1, hL, fun target k => st.trans ?_⟩
    have e : (v.toList ++ S).map (ov ρ) = (v.map (ov ρ)).toList ++ S.map (ov ρ) := by rw [List.map_append, otl]
    rw [← e]; exact k
theorem s_callV {x W cid : Nat} {y : MethodName} {by' : ByteArray} {ml' : Nat} {rt : Option FieldType} {rm : Room} {as : List Value} {j : Addr} {vs : List Value} {S0 : List Value} (w1 : (Jvm.Cond.methodLink own x y).before a0 Z = true) (w2 : (Jvm.Cond.instanceMethod y).before a0 Z = true) (w3 : (Jvm.Cond.initialized y.cls).before a0 Z = true) (w4 : (Jvm.Cond.code y by' ml' rt).before a0 Z = true)
    (w5 : (Jvm.Cond.declares y).before a0 Z = true) (w6 : (Jvm.Cond.selects (K cid).1 y y).before a0 Z = true) (hy : y.cls ≠ "java/lang/invoke/MethodHandle" ∧ y.cls ≠ "java/lang/invoke/VarHandle") (hC : (K cid).1 = y.cls) (hlen : ∀ sig, parseMethodDescriptor y.desc = some sig → as.length = sig.parameters.length) (hd : decode bytes pc = .ok (.invokevirtual x, 3)) (hA : A[j]? = some (.inl (cid, vs))) (hM : Met l Z K ρ y by' ml' rt rm [] (.ref j :: as) A v A')
    (hS : S0 = as.reverse ++ .ref j :: S) (hW : (S.map fun v => v.category).sum = W) (hf : rm.frames + 1 ≤ R.frames) (hl : W + (ml' + 11) + rm.locals ≤ R.locals) (hc : c + rm.cells ≤ R.cells) (hn : n + rm.slots ≤ R.slots) : Sim l Z K ρ own mn bytes ml R (pc, L, S0, A, c, n) (pc + 3, L, v.toList ++ S, A', c + rm.cells, n + rm.slots) :=
  fun p e s m args below meth cd T locs X hx hZ hby hml hown hnm hR hF hL => by
    subst hS
    obtain ⟨cq, kq, qa, qb, qc⟩ := isOf hZ rfl (hR.obj hA).1
    have w6' : (Jvm.Cond.selects y.cls y y).before a0 Z = true := by rw [← hC]; exact w6
    obtain ⟨_, _, ⟨T1, L1, k1, n1⟩, -, X1, ⟨Lc, hQ, l1, y1, z1⟩, st⟩ := X.virtualBack hx (y := y) (z := y) hown (mvT hZ w1) (mvT hZ w5) (notFace_of_selects (args := #[]) (mvT hZ w6')) (mvT hZ w6) (mvT hZ w2) hy (backOf (W := W) (Q := fun v' h L => v' = v.map (ov ρ) ∧ Fr (ρ.1 0) L ∧ oRep Z K ρ h A') (hM T.heap hR) hZ w4 w3 hf hl) qa qc (g := oF ρ m (pc, L, as.reverse ++ .ref j :: S, A, c, n)) rfl (by rw [hml, ← hL]; simp) (Steps.refl _) (argsL := as.map (ov ρ)) (rest := S.map (ov ρ)) (fun sig q => by rw [List.length_map]; exact hlen sig q) (by show (as.reverse ++ .ref j :: S).map (ov ρ) = _; simp [ov]) (by show 2 * 0 + _ ≤ _; rw [ocat, hW]; omega) (hb hby hd) (fun _ _ => ⟨rfl, rfl, hc, hn⟩)
    dsimp only [Pt.U, Pt.locs, Pt.cells, Pt.slots] at X1 l1 y1 z1 st hQ
    subst l1 y1 z1
    obtain ⟨rfl, N1, R1⟩ := hQ
    refine ⟨T1, _, X1, R1, Fr.app hF N1, hL, fun target k => st.trans ?_⟩
    have e : (v.toList ++ S).map (ov ρ) = (v.map (ov ρ)).toList ++ S.map (ov ρ) := by rw [List.map_append, otl]
    rw [← e]; exact k
theorem s_callP {x W cid kk : Nat} {y : MethodName} {by' : ByteArray} {ml' : Nat} {rt : Option FieldType} {rm : Room} {as : List Value} {j : Addr} {vs : List Value} {S0 : List Value} (w1 : (Jvm.Cond.methodLink own x y).before a0 Z = true) (w2 : (Jvm.Cond.instanceMethod y).before a0 Z = true) (w3 : (Jvm.Cond.initialized y.cls).before a0 Z = true) (w4 : (Jvm.Cond.code y by' ml' rt).before a0 Z = true)
    (w5 : (Jvm.Cond.privateMethod y).before a0 Z = true) (w6 : (Jvm.Cond.instantiable y.cls kk).before a0 Z = true) (hy : y.cls ≠ "java/lang/invoke/MethodHandle" ∧ y.cls ≠ "java/lang/invoke/VarHandle") (hlen : ∀ sig, parseMethodDescriptor y.desc = some sig → as.length = sig.parameters.length) (hd : decode bytes pc = .ok (.invokevirtual x, 3)) (hA : A[j]? = some (.inl (cid, vs))) (hM : Met l Z K ρ y by' ml' rt rm [] (.ref j :: as) A v A')
    (hS : S0 = as.reverse ++ .ref j :: S) (hW : (S.map fun v => v.category).sum = W) (hf : rm.frames + 1 ≤ R.frames) (hl : W + (ml' + 11) + rm.locals ≤ R.locals) (hc : c + rm.cells ≤ R.cells) (hn : n + rm.slots ≤ R.slots) : Sim l Z K ρ own mn bytes ml R (pc, L, S0, A, c, n) (pc + 3, L, v.toList ++ S, A', c + rm.cells, n + rm.slots) :=
  fun p e s m args below meth cd T locs X hx hZ hby hml hown hnm hR hF hL => by
    subst hS
    obtain ⟨cq, q1, q2⟩ := (hR.obj hA).1.cell
    have wi' : (Jvm.Cond.instantiable y.cls kk).before args s = true := mv hZ w6
    obtain ⟨c1, k1, f1, f2, -, f4, -⟩ := Cond.instantiable_spec wi'
    have hni : k1.isInterface = false := by cases q : k1.isInterface <;> simp [q] at f4 ⊢
    have hpv := Cond.privateMethod_at (mvP (args := args) hZ w5)
    have w2' : (Jvm.Cond.instanceMethod y).before args s = true := mvT hZ w2
    have w6' : (Jvm.Cond.selects y.cls y y).before args s = true := selects_self_of_private f1 f2 hni hpv w2' hy
    obtain ⟨_, _, ⟨T1, L1, k1, n1⟩, -, X1, ⟨Lc, hQ, l1, y1, z1⟩, st⟩ := X.privateBack hx (y := y) hown (mvT hZ w1) w2' w6' hpv (mvT hZ w4) hy (backOf (W := W) (Q := fun v' h L => v' = v.map (ov ρ) ∧ Fr (ρ.1 0) L ∧ oRep Z K ρ h A') (hM T.heap hR) hZ w4 w3 hf hl) (g := oF ρ m (pc, L, as.reverse ++ .ref j :: S, A, c, n)) rfl (by rw [hml, ← hL]; simp) (Steps.refl _) (a := ρ.1 j) q1 q2 (argsL := as.map (ov ρ)) (rest := S.map (ov ρ)) (fun sig q => by rw [List.length_map]; exact hlen sig q) (by show (as.reverse ++ .ref j :: S).map (ov ρ) = _; simp [ov]) (by show 2 * 0 + _ ≤ _; rw [ocat, hW]; omega) (hb hby hd) (fun _ _ => ⟨rfl, rfl, hc, hn⟩)
    dsimp only [Pt.U, Pt.locs, Pt.cells, Pt.slots] at X1 l1 y1 z1 st hQ
    subst l1 y1 z1
    obtain ⟨rfl, N1, R1⟩ := hQ
    refine ⟨T1, _, X1, R1, Fr.app hF N1, hL, fun target k => st.trans ?_⟩
    have e : (v.toList ++ S).map (ov ρ) = (v.map (ov ρ)).toList ++ S.map (ov ρ) := by rw [List.map_append, otl]
    rw [← e]; exact k
theorem orun1 (cl : Cell) (i : Nat) (w : Value) : cl.storeRun i [w] = cl.setSlot i w := rfl
theorem s_arraycopy1 {x W : Nat} {j k : Addr} {vs us : List Value} {sp dp : Int32} {w : Value} (w1 : (Jvm.Cond.methodLink own x Jvm.Stand.acN).before a0 Z = true) (w2 : (Jvm.Cond.native Jvm.Stand.acN).before a0 Z = true) (w3 : (Jvm.Cond.static Jvm.Stand.acN).before a0 Z = true) (w4 : (Jvm.Cond.initialized "java/lang/System").before a0 Z = true)
    (hd : decode bytes pc = .ok (.invokestatic x, 3)) (hA : A[j]? = some (.inr (.int, vs))) (hB : A[k]? = some (.inr (.int, us))) (h1 : ¬ sp < 0) (h2 : ¬ dp < 0) (hv : vs[sp.toNatClampNeg]? = some w) (hi : dp.toNatClampNeg < us.length) (hf : 1 ≤ R.frames) (hW : (S.map fun v => v.category).sum = W) (hl : W + 18 ≤ R.locals)
    (hA' : A.set k (.inr (.int, us.set dp.toNatClampNeg w)) = A') : Sim l Z K ρ own mn bytes ml R (pc, L, .int 1 :: .int dp :: .ref k :: .int sp :: .ref j :: S, A, c, n) (pc + 3, L, S, A', c, n) :=
  fun p e s m args below meth cd T locs X hx hZ hby hml hown hnm hR hF hL => by
    subst hA'
    obtain ⟨⟨a1, a1'⟩, cs, a2, a3⟩ := hR.arr hA
    obtain ⟨⟨b1, b1'⟩, ct, b2, b3⟩ := hR.arr hB
    obtain ⟨q1, q2⟩ := oin a3 h1 hv
    have hw : fits .int (ov ρ w) = true := a1' w (List.mem_of_getElem? hv)
    obtain ⟨z, ez⟩ := fit_I hw (Or.inl rfl)
    obtain ⟨os, ks, hks, sc, hsk⟩ := State.isArrayOf_alike hZ.alike a2.2.1
    obtain ⟨od, kd, hkd, dc, hdk⟩ := State.isArrayOf_alike hZ.alike b2.2.1
    have nat : ∀ {x : Int32}, ¬ x < 0 → x.toInt = x.toNatClampNeg := fun {x} q => by
      rw [Int32.lt_iff_toInt_lt] at q; have : (0 : Int32).toInt = 0 := rfl
      simp only [Int32.toNatClampNeg]; omega
    have sz1 : cs.slots.size = vs.length := by rw [a3]; simp
    have sz2 : ct.slots.size = us.length := by rw [b3]; simp
    have e1 : (1 : Int32).toInt = 1 := rfl
    have e1' : (1 : Int32).toNatClampNeg = 1 := rfl
    have hlt := (List.getElem?_eq_some_iff.mp hv).1
    have hgd : cs.slots.getD sp.toNatClampNeg .null = .int z := by rw [Array.getD_eq_getD_getElem?, q2, ez]; rfl
    have hst : cs.stretch sp.toNatClampNeg (1 : Int32).toNatClampNeg = [.int z] := by
      show [cs.slots.getD (sp.toNatClampNeg + 0) .null] = _
      rw [Nat.add_zero, hgd]
    obtain ⟨vm₁, hW₁, X', st⟩ := X.arraycopyK hx hown (mvT hZ w1) (mvT hZ w2) (mvT hZ w3) (mvT hZ w4) (srcPos := sp) (destPos := dp) (n := 1) a2.1 b2.1 os od a2.2.2 b2.2.2 hks hkd hsk hdk rfl h1 h2 (by decide)
      (by rw [nat h1, e1, sz1]; omega) (by rw [nat h2, e1, sz2]; omega) (fun vm hv i hi => by
        have hi0 : i = 0 := by rw [e1'] at hi; omega
        subst hi0
        rw [Nat.add_zero, hgd]; exact ⟨rfl, trivial⟩) (g := oF ρ m (pc, L, .int 1 :: .int dp :: .ref k :: .int sp :: .ref j :: S, A, c, n)) rfl (by rw [hml, ← hL]; simp) rfl (hb hby hd) hf (by show 2 * 0 + _ + (7 + 11) ≤ _; rw [ocat, hW]; omega)
    have ecp : copied cs ct sp dp 1 = ct.setSlot dp.toNatClampNeg (ov ρ w) := by
      show ct.storeRun _ (cs.stretch _ _) = _
      rw [hst, orun1, ez]
    rw [ecp] at X' st
    have hWr : Wr T.heap (T.heap.setIfInBounds (ρ.1 k) (ct.setSlot dp.toNatClampNeg (ov ρ w))) (ρ.1 k) dp.toNatClampNeg (ov ρ w) := ⟨ct, b2.1, b2.plain, by rw [sz2]; exact hi, rfl⟩
    refine ⟨_, _, X', hR.arrSet hB hw hWr, Fr.app hF fun y hy => ?_, hL, st⟩
    have := Jvm.Stand.copyLocs_base hy
    rw [this]; exact hR.ge k
/-! the returns -/
theorem e_return (hd : decode bytes pc = .ok (.return_, 1)) (hr : ret = none) (hc : c ≤ R.cells) (hn : n ≤ R.slots) : Ends l Z K ρ own mn bytes ml R ret (pc, L, [], A, c, n) none A :=
  fun p e s m args below meth cd T locs X hx hZ hby hml hown hnm hR hF hL hrt hlk => by
    obtain ⟨fs, hl, hrun, hended, hW, hsame⟩ := X.leave (v := none) (fun _ => rfl) hlk
    exact ⟨_, locs, X.returnOut hx (hrt.trans hr) (hb hby hd) hl, hrun, hended, hF, hR, hW, hsame.mono hc hn⟩
theorem e_ireturn {z : Int32} (hd : decode bytes pc = .ok (.ireturn, 1)) (hr : ret = some .int) (hc : c ≤ R.cells) (hn : n ≤ R.slots) : Ends l Z K ρ own mn bytes ml R ret (pc, L, .int z :: S, A, c, n) (some (.int z)) A :=
  fun p e s m args below meth cd T locs X hx hZ hby hml hown hnm hR hF hL hrt hlk => by
    obtain ⟨fs, hl, hrun, hended, hW, hsame⟩ := X.leave (v := some (.int z)) (fun h => by rw [hrt, hr] at h; cases h) hlk
    exact ⟨_, locs, retOut X hx (t := .int) (hrt.trans hr) rfl (Or.inl ⟨rfl, Or.inl rfl, z, rfl⟩) (hb hby hd) hl, hrun, hended, hF, hR, hW, hsame.mono hc hn⟩
theorem e_nreturn {z u : Int32} {t : FieldType} (hd : decode bytes pc = .ok (.ireturn, 1)) (hr : ret = some t) (ht : t = .boolean ∨ t = .byte ∨ t = .char ∨ t = .short) (hu : nar t z = u) (hc : c ≤ R.cells) (hn : n ≤ R.slots) : Ends l Z K ρ own mn bytes ml R ret (pc, L, .int z :: S, A, c, n) (some (.int u)) A :=
  fun p e s m args below meth cd T locs X hx hZ hby hml hown hnm hR hF hL hrt hlk => by
    subst hu
    obtain ⟨fs, hl, hrun, hended, hW, hsame⟩ := X.leave (v := some (.int (nar t z))) (fun h => by rw [hrt, hr] at h; cases h) hlk
    exact ⟨_, locs, retN X hx (t := t) (hrt.trans hr) ht (hb hby hd) hl, hrun, hended, hF, hR, hW, hsame.mono hc hn⟩
theorem e_lreturn {z : Int64} (hd : decode bytes pc = .ok (.lreturn, 1)) (hr : ret = some .long) (hc : c ≤ R.cells) (hn : n ≤ R.slots) : Ends l Z K ρ own mn bytes ml R ret (pc, L, .long z :: S, A, c, n) (some (.long z)) A :=
  fun p e s m args below meth cd T locs X hx hZ hby hml hown hnm hR hF hL hrt hlk => by
    obtain ⟨fs, hl, hrun, hended, hW, hsame⟩ := X.leave (v := some (.long z)) (fun h => by rw [hrt, hr] at h; cases h) hlk
    exact ⟨_, locs, retOut X hx (t := .long) (hrt.trans hr) rfl (Or.inr (Or.inl ⟨rfl, rfl, z, rfl⟩)) (hb hby hd) hl, hrun, hended, hF, hR, hW, hsame.mono hc hn⟩
theorem e_areturn {w : Value} {t : FieldType} (hd : decode bytes pc = .ok (.areturn, 1)) (hr : ret = some t) (ht : t.isReference = true) (hw : (ov ρ w).isRef = true) (hc : c ≤ R.cells) (hn : n ≤ R.slots) : Ends l Z K ρ own mn bytes ml R ret (pc, L, w :: S, A, c, n) (some w) A :=
  fun p e s m args below meth cd T locs X hx hZ hby hml hown hnm hR hF hL hrt hlk => by
    have hw' := hw
    obtain ⟨fs, hl, hrun, hended, hW, hsame⟩ := X.leave (v := some (ov ρ w)) (fun h => by rw [hrt, hr] at h; cases h) hlk
    exact ⟨_, locs, retOut X hx (t := t) (hrt.trans hr) (by cases t <;> first | rfl | cases ht) (Or.inr (Or.inr (Or.inr (Or.inr ⟨rfl, ht, hw'⟩)))) (hb hby hd) hl, hrun, hended, hF, hR, hW, hsame.mono hc hn⟩
/-! from the walk to the contract -/
def oE0 : List Value → List Slot
  | [] => []
  | v :: vs => if v.category = 2 then .val v :: .second :: oE0 vs else .val v :: oE0 vs
def oE (as : List Value) (ml : Nat) : List Slot := oE0 as ++ List.replicate (ml - (oE0 as).length) .unset
theorem oE0_ok (as : List Value) (acc : List Slot) : ((as.map (ov ρ)).toArray.foldl (init := acc.toArray) fun acc v => if v.category = 2 then (acc.push (.val v)).push .second else acc.push (.val v)) = (acc ++ (oE0 as).map (osl ρ)).toArray := by
  induction as generalizing acc with
  | nil => simp [oE0]
  | cons v vs ih =>
    have h := ih
    simp only [List.map_cons, List.foldl_toArray', List.foldl_cons, ov_cat] at h ⊢
    by_cases q : v.category = 2
    · have e : (acc.toArray.push (Slot.val (ov ρ v))).push .second = (acc ++ [Slot.val (ov ρ v), Slot.second]).toArray := by simp
      rw [if_pos q, e, h]; simp [oE0, q, osl]
    · have e : acc.toArray.push (Slot.val (ov ρ v)) = (acc ++ [Slot.val (ov ρ v)]).toArray := by simp
      rw [if_neg q, e, h]; simp [oE0, q, osl]
theorem oentry {as : List Value} {L0 : List Slot} (h : oE as ml = L0) (m : MethodId) : entryFrame m (as.map (ov ρ)).toArray ml = mkF m 0 (L0.map (osl ρ)).toArray [] := by
  subst h
  have e := oE0_ok (ρ := ρ) as []
  have q : argsToLocals (as.map (ov ρ)).toArray ml = ((oE as ml).map (osl ρ)).toArray := by
    have e' : ∀ X : Array Slot, X = (([] : List Slot) ++ (oE0 as).map (osl ρ)).toArray → X ++ Array.replicate (ml - X.size) Slot.unset = ((oE as ml).map (osl ρ)).toArray := fun X hX => by rw [hX]; simp [oE, osl]
    have e2 := e' _ e
    exact e2
  show ({ method := m, pc := 0, locals := argsToLocals _ ml, stack := [], locked := none } : JFrame) = _
  rw [q]
theorem Met.of {y : MethodName} {rm : Room} {ws : List Jvm.Cond} {as : List Value} {L0 : List Slot} (hp : plainFor y = true) (he : ∀ m, entryFrame m (as.map (ov ρ)).toArray ml = mkF m 0 (L0.map (osl ρ)).toArray []) (hL0 : L0.length = ml)
    (hE : Ends l Z K ρ y.cls y.name bytes ml rm ret (0, L0, [], A, 0, 0) v A') : Met l Z K ρ y bytes ml ret rm ws as A v A' := fun h0 hR0 => by
  refine MetFree.of_bodySF hp hisR ?_
  intro p e s m args below meth c s₁ Bd hml0 hP hK
  obtain ⟨rfl, hZ, hh⟩ := hP
  have hown : s.vm.findClass y.cls = some m.cls := findClass_of_methodNamed Bd.named
  have hnm := (name_of_methodNamed Bd.named Bd.method).1
  have X0 : Stand p l e rm s m (as.map (ov ρ)).toArray below meth c s₁ [] 0 0 := Stand.of_body Bd
  have e0 : s₁.heap = h0 := by rw [← hh, Bd.state]; rfl
  obtain ⟨s2, L, g1, g2, g3, g4, g5, g6, g7⟩ := hE p e s m _ below meth c s₁ [] X0 Bd.exec hZ Bd.bytes hml0 hown hnm (by show oRep Z K ρ s₁.heap A; rw [e0]; exact hR0) (Fr.nil _) hL0 Bd.returns Bd.notSynchronized
  refine ⟨s2, _, castTop (he m) g1, g2, g3, _, L, rfl, ⟨rfl, g4, g5⟩, ⟨_, rfl⟩, g6, g7⟩
theorem Met.ofE {y : MethodName} {rm : Room} {ws : List Jvm.Cond} {as : List Value} {L0 : List Slot} (hp : plainFor y = true) (he : ∀ m, entryFrame m (as.map (ov ρ)).toArray ml = mkF m 0 (L0.map (osl ρ)).toArray []) (hL0 : L0.length = ml)
    (hE : EndsE l Z K ρ y.cls y.name bytes ml rm ret (0, L0, [], A, 0, 0) v) : ∃ A', Met l Z K ρ y bytes ml ret rm ws as A v A' := hE.imp fun _ h => Met.of hp he hL0 h
end Layer

/-! ARITH: ints and longs by their unsigned numbers -/
def u32 (x : Int32) : Nat := x.toBitVec.toNat
def u64 (x : Int64) : Nat := x.toBitVec.toNat
theorem u32_lt (x : Int32) : u32 x < 4294967296 := x.toBitVec.isLt
theorem u64_lt (x : Int64) : u64 x < 18446744073709551616 := x.toBitVec.isLt
theorem u32_inj {x y : Int32} (h : u32 x = u32 y) : x = y := Int32.toBitVec_inj.mp (BitVec.eq_of_toNat_eq h)
theorem u64_inj {x y : Int64} (h : u64 x = u64 y) : x = y := Int64.toBitVec_inj.mp (BitVec.eq_of_toNat_eq h)
theorem u32_toInt (x : Int32) : x.toInt = if 2 * u32 x < 4294967296 then (u32 x : Int) else (u32 x : Int) - 4294967296 := BitVec.toInt_eq_toNat_cond x.toBitVec
theorem u64_toInt (x : Int64) : x.toInt = if 2 * u64 x < 18446744073709551616 then (u64 x : Int) else (u64 x : Int) - 18446744073709551616 := BitVec.toInt_eq_toNat_cond x.toBitVec
theorem u32_nn {x : Int32} (h : 0 ≤ x.toInt) : (u32 x : Int) = x.toInt := by have h1 := u32_toInt x; have := u32_lt x; split at h1 <;> omega
theorem u64_nn {x : Int64} (h : 0 ≤ x.toInt) : (u64 x : Int) = x.toInt := by have h1 := u64_toInt x; have := u64_lt x; split at h1 <;> omega
theorem u32_and (x y : Int32) : u32 (x &&& y) = u32 x &&& u32 y := by show (x &&& y).toBitVec.toNat = _; rw [Int32.toBitVec_and, BitVec.toNat_and]; rfl
theorem u32_or (x y : Int32) : u32 (x ||| y) = u32 x ||| u32 y := by show (x ||| y).toBitVec.toNat = _; rw [Int32.toBitVec_or, BitVec.toNat_or]; rfl
theorem u32_xor (x y : Int32) : u32 (x ^^^ y) = u32 x ^^^ u32 y := by show (x ^^^ y).toBitVec.toNat = _; rw [Int32.toBitVec_xor, BitVec.toNat_xor]; rfl
theorem u64_and (x y : Int64) : u64 (x &&& y) = u64 x &&& u64 y := by show (x &&& y).toBitVec.toNat = _; rw [Int64.toBitVec_and, BitVec.toNat_and]; rfl
theorem u64_or (x y : Int64) : u64 (x ||| y) = u64 x ||| u64 y := by show (x ||| y).toBitVec.toNat = _; rw [Int64.toBitVec_or, BitVec.toNat_or]; rfl
theorem u64_xor (x y : Int64) : u64 (x ^^^ y) = u64 x ^^^ u64 y := by show (x ^^^ y).toBitVec.toNat = _; rw [Int64.toBitVec_xor, BitVec.toNat_xor]; rfl
theorem u32_add (x y : Int32) : u32 (x + y) = (u32 x + u32 y) % 4294967296 := by show (x + y).toBitVec.toNat = _; rw [Int32.toBitVec_add, BitVec.toNat_add]; rfl
theorem u64_add (x y : Int64) : u64 (x + y) = (u64 x + u64 y) % 18446744073709551616 := by show (x + y).toBitVec.toNat = _; rw [Int64.toBitVec_add, BitVec.toNat_add]; rfl
theorem u32_mul (x y : Int32) : u32 (x * y) = (u32 x * u32 y) % 4294967296 := by show (x * y).toBitVec.toNat = _; rw [Int32.toBitVec_mul, BitVec.toNat_mul]; rfl
theorem u64_mul (x y : Int64) : u64 (x * y) = (u64 x * u64 y) % 18446744073709551616 := by show (x * y).toBitVec.toNat = _; rw [Int64.toBitVec_mul, BitVec.toNat_mul]; rfl
theorem and31 (n : Nat) : n &&& 31 = n % 32 := Nat.and_two_pow_sub_one_eq_mod n 5
theorem and63 (n : Nat) : n &&& 63 = n % 64 := Nat.and_two_pow_sub_one_eq_mod n 6
theorem u32_ushr (x y : Int32) : u32 (jushr x y) = u32 x / 2 ^ (u32 y % 32) := by
  show (x.toBitVec >>> ((y &&& 31).toBitVec % 32#32)).toNat = _
  rw [BitVec.ushiftRight_eq', BitVec.toNat_ushiftRight, Nat.shiftRight_eq_div_pow, BitVec.toNat_umod]
  have e : (y &&& 31).toBitVec.toNat = u32 y % 32 := (u32_and y 31).trans (and31 _)
  rw [e]
  show u32 x / 2 ^ (u32 y % 32 % 32) = _
  rw [Nat.mod_mod]
theorem u32_shl (x y : Int32) : u32 (jshl x y) = (u32 x * 2 ^ (u32 y % 32)) % 4294967296 := by
  show (x.toBitVec <<< ((y &&& 31).toBitVec.smod 32#32)).toNat = _
  have e := sm32 y (u32 y % 32) rfl
  rw [BitVec.shiftLeft_eq', BitVec.toNat_shiftLeft, Nat.shiftLeft_eq]
  have e' : ((y &&& 31).toBitVec.smod 32#32).toNat = u32 y % 32 := e
  rw [e']; rfl
theorem u64_ushr (x : Int64) (y : Int32) : u64 (jushrL x y) = u64 x / 2 ^ (u32 y % 64) := by
  obtain ⟨e, h⟩ := sm64 y (u32 y % 64) rfl
  show (x.toBitVec >>> ((y &&& 0x3f).toInt64.toBitVec % 64#64)).toNat = _
  rw [e, BitVec.ushiftRight_eq', BitVec.toNat_ushiftRight, Nat.shiftRight_eq_div_pow, BitVec.toNat_umod, BitVec.toNat_ofNat]
  show u64 x / 2 ^ (u32 y % 64 % 18446744073709551616 % 64) = _
  congr 2
  omega
theorem u64_shl (x : Int64) (y : Int32) : u64 (jshlL x y) = (u64 x * 2 ^ (u32 y % 64)) % 18446744073709551616 := by
  obtain ⟨e, h⟩ := sm64 y (u32 y % 64) rfl
  show (x.toBitVec <<< ((y &&& 0x3f).toInt64.toBitVec.smod 64#64)).toNat = _
  rw [e, BitVec.shiftLeft_eq', BitVec.toNat_shiftLeft, Nat.shiftLeft_eq]
  have e' := smod64 (u32 y % 64) h
  have e'' : ((BitVec.ofNat 64 (u32 y % 64)).smod 64#64).toNat = u32 y % 64 := e'
  rw [e'']; rfl
theorem u32_l2i (x : Int64) : u32 x.toInt32 = u64 x % 4294967296 := by
  show x.toInt32.toBitVec.toNat = _
  rw [Int64.toBitVec_toInt32, BitVec.signExtend_eq_setWidth_of_le _ (by decide), BitVec.toNat_setWidth]; rfl
theorem u64_i2l (x : Int32) : u64 x.toInt64 = if 2 * u32 x < 4294967296 then u32 x else u32 x + 18446744069414584320 := by
  have h := c_i2l x
  rw [u64_toInt, u32_toInt] at h
  have := u32_lt x; have := u64_lt x.toInt64
  split <;> split at h <;> omega
theorem i32_of {x : Int32} {n : Nat} (h : u32 x = n) : x = Int32.ofNat n := by
  apply u32_inj; rw [h]
  show n = (BitVec.ofNat 32 n).toNat
  rw [BitVec.toNat_ofNat, Nat.mod_eq_of_lt]; have := u32_lt x; omega
theorem i64_of {x : Int64} {n : Nat} (h : u64 x = n) : x = Int64.ofNat n := by
  apply u64_inj; rw [h]
  show n = (BitVec.ofNat 64 n).toNat
  rw [BitVec.toNat_ofNat, Nat.mod_eq_of_lt]; have := u64_lt x; omega
theorem u32_of (n : Nat) (h : n < 4294967296) : u32 (Int32.ofNat n) = n := by
  show (BitVec.ofNat 32 n).toNat = n
  rw [BitVec.toNat_ofNat, Nat.mod_eq_of_lt]; omega
theorem u64_of (n : Nat) (h : n < 18446744073709551616) : u64 (Int64.ofNat n) = n := by
  show (BitVec.ofNat 64 n).toNat = n
  rw [BitVec.toNat_ofNat, Nat.mod_eq_of_lt]; omega
theorem toInt_of {n : Nat} (h : n < 2147483648) : (Int32.ofNat n).toInt = n := Int32.toInt_ofNat_of_lt (by omega)
theorem tnc_of {n : Nat} (h : n < 2147483648) : (Int32.ofNat n).toNatClampNeg = n := by show (Int32.ofNat n).toInt.toNat = n; rw [toInt_of h]; rfl
theorem nneg_of {n : Nat} (h : n < 2147483648) : ¬ Int32.ofNat n < 0 := by rw [Int32.lt_iff_toInt_lt, toInt_of h]; show ¬ (n : Int) < 0; omega
theorem jcmp_lt (x y : Int64) : jcmp x y < 0 ↔ x < y := lw_lt x y
theorem jcmp_gt (x y : Int64) : 0 < jcmp x y ↔ y < x := lw_gt x y
theorem jcmp_eq (x y : Int64) : jcmp x y = 0 ↔ x = y := lw_eq x y
/-- a mask of the bits from k on -/
theorem nat_hi (n k w : Nat) (h : n < 2 ^ w) (hk : k ≤ w) : n &&& (2 ^ w - 2 ^ k) = n / 2 ^ k * 2 ^ k := by
  apply Nat.eq_of_testBit_eq
  intro i
  have e : 2 ^ w - 2 ^ k = (2 ^ (w - k) - 1) <<< k := by
    rw [Nat.shiftLeft_eq, Nat.sub_mul, Nat.one_mul, ← Nat.pow_add, Nat.sub_add_cancel hk]
  rw [e, ← Nat.shiftRight_eq_div_pow, ← Nat.shiftLeft_eq, Nat.testBit_and, Nat.testBit_shiftLeft, Nat.testBit_shiftLeft, Nat.testBit_two_pow_sub_one, Nat.testBit_shiftRight]
  by_cases q : k ≤ i
  · simp only [q, decide_true, Bool.true_and]
    have e2 : k + (i - k) = i := by omega
    rw [e2]
    by_cases r : i < w
    · have : decide (i - k < w - k) = true := by simp; omega
      rw [this, Bool.and_true]
    · have : n.testBit i = false := Nat.testBit_lt_two_pow (Nat.lt_of_lt_of_le h (Nat.pow_le_pow_right (by decide) (by omega)))
      rw [this]; simp
  · simp [q]

theorem d1_0 : decode jdk_29_method_69_code 0 = .ok (.iload_n 0, 1) := by decide +kernel
theorem d1_1 : decode jdk_29_method_69_code 1 = .ok (.iload_n 1, 1) := by decide +kernel
theorem d1_2 : decode jdk_29_method_69_code 2 = .ok (.if_icmp .gt 7, 3) := by decide +kernel
theorem d1_5 : decode jdk_29_method_69_code 5 = .ok (.iload_n 0, 1) := by decide +kernel
theorem d1_6 : decode jdk_29_method_69_code 6 = .ok (.goto 4, 3) := by decide +kernel
theorem d1_9 : decode jdk_29_method_69_code 9 = .ok (.iload_n 1, 1) := by decide +kernel
theorem d1_10 : decode jdk_29_method_69_code 10 = .ok (.ireturn, 1) := by decide +kernel
theorem d2_0 : decode jdk_29_method_65_code 0 = .ok (.iload_n 0, 1) := by decide +kernel
theorem d2_1 : decode jdk_29_method_65_code 1 = .ok (.iload_n 1, 1) := by decide +kernel
theorem d2_2 : decode jdk_29_method_65_code 2 = .ok (.if_icmp .lt 7, 3) := by decide +kernel
theorem d2_5 : decode jdk_29_method_65_code 5 = .ok (.iload_n 0, 1) := by decide +kernel
theorem d2_6 : decode jdk_29_method_65_code 6 = .ok (.goto 4, 3) := by decide +kernel
theorem d2_9 : decode jdk_29_method_65_code 9 = .ok (.iload_n 1, 1) := by decide +kernel
theorem d2_10 : decode jdk_29_method_65_code 10 = .ok (.ireturn, 1) := by decide +kernel
theorem d3_0 : decode prog_8_method_1_code 0 = .ok (.aload_n 0, 1) := by decide +kernel
theorem d3_1 : decode prog_8_method_1_code 1 = .ok (.invokespecial 1, 3) := by decide +kernel
theorem d3_4 : decode prog_8_method_1_code 4 = .ok (.aload_n 0, 1) := by decide +kernel
theorem d3_5 : decode prog_8_method_1_code 5 = .ok (.iconst 4, 1) := by decide +kernel
theorem d3_6 : decode prog_8_method_1_code 6 = .ok (.newarray .int, 2) := by decide +kernel
theorem d3_8 : decode prog_8_method_1_code 8 = .ok (.putfield 7, 3) := by decide +kernel
theorem d3_11 : decode prog_8_method_1_code 11 = .ok (.return_, 1) := by decide +kernel
theorem d5_0 : decode method_2_code 0 = .ok (.iload_n 0, 1) := by decide +kernel
theorem d5_1 : decode method_2_code 1 = .ok (.ifCond .eq 10, 3) := by decide +kernel
theorem d5_4 : decode method_2_code 4 = .ok (.iload_n 1, 1) := by decide +kernel
theorem d5_5 : decode method_2_code 5 = .ok (.iload_n 2, 1) := by decide +kernel
theorem d5_6 : decode method_2_code 6 = .ok (.if_icmp .ge 5, 3) := by decide +kernel
theorem d5_9 : decode method_2_code 9 = .ok (.iconst 1, 1) := by decide +kernel
theorem d5_10 : decode method_2_code 10 = .ok (.ireturn, 1) := by decide +kernel
theorem d5_11 : decode method_2_code 11 = .ok (.iconst 0, 1) := by decide +kernel
theorem d5_12 : decode method_2_code 12 = .ok (.ireturn, 1) := by decide +kernel
theorem d6_0 : decode prog_8_method_5_code 0 = .ok (.iconst 0, 1) := by decide +kernel
theorem d6_1 : decode prog_8_method_5_code 1 = .ok (.istore_n 2, 1) := by decide +kernel
theorem d6_2 : decode prog_8_method_5_code 2 = .ok (.aload_n 0, 1) := by decide +kernel
theorem d6_3 : decode prog_8_method_5_code 3 = .ok (.getfield 13, 3) := by decide +kernel
theorem d6_6 : decode prog_8_method_5_code 6 = .ok (.istore_n 3, 1) := by decide +kernel
theorem d6_7 : decode prog_8_method_5_code 7 = .ok (.iload_n 2, 1) := by decide +kernel
theorem d6_8 : decode prog_8_method_5_code 8 = .ok (.iload_n 3, 1) := by decide +kernel
theorem d6_9 : decode prog_8_method_5_code 9 = .ok (.if_icmp .ge 35, 3) := by decide +kernel
theorem d6_12 : decode prog_8_method_5_code 12 = .ok (.iload_n 2, 1) := by decide +kernel
theorem d6_13 : decode prog_8_method_5_code 13 = .ok (.iload_n 3, 1) := by decide +kernel
theorem d6_14 : decode prog_8_method_5_code 14 = .ok (.iadd, 1) := by decide +kernel
theorem d6_15 : decode prog_8_method_5_code 15 = .ok (.iconst 1, 1) := by decide +kernel
theorem d6_16 : decode prog_8_method_5_code 16 = .ok (.iushr, 1) := by decide +kernel
theorem d6_17 : decode prog_8_method_5_code 17 = .ok (.istore 4, 2) := by decide +kernel
theorem d6_19 : decode prog_8_method_5_code 19 = .ok (.aload_n 0, 1) := by decide +kernel
theorem d6_20 : decode prog_8_method_5_code 20 = .ok (.getfield 7, 3) := by decide +kernel
theorem d6_23 : decode prog_8_method_5_code 23 = .ok (.iload 4, 2) := by decide +kernel
theorem d6_25 : decode prog_8_method_5_code 25 = .ok (.iaload, 1) := by decide +kernel
theorem d6_26 : decode prog_8_method_5_code 26 = .ok (.iload_n 1, 1) := by decide +kernel
theorem d6_27 : decode prog_8_method_5_code 27 = .ok (.if_icmp .ge 11, 3) := by decide +kernel
theorem d6_30 : decode prog_8_method_5_code 30 = .ok (.iload 4, 2) := by decide +kernel
theorem d6_32 : decode prog_8_method_5_code 32 = .ok (.iconst 1, 1) := by decide +kernel
theorem d6_33 : decode prog_8_method_5_code 33 = .ok (.iadd, 1) := by decide +kernel
theorem d6_34 : decode prog_8_method_5_code 34 = .ok (.istore_n 2, 1) := by decide +kernel
theorem d6_35 : decode prog_8_method_5_code 35 = .ok (.goto 6, 3) := by decide +kernel
theorem d6_38 : decode prog_8_method_5_code 38 = .ok (.iload 4, 2) := by decide +kernel
theorem d6_40 : decode prog_8_method_5_code 40 = .ok (.istore_n 3, 1) := by decide +kernel
theorem d6_41 : decode prog_8_method_5_code 41 = .ok (.goto (-34), 3) := by decide +kernel
theorem d6_44 : decode prog_8_method_5_code 44 = .ok (.iload_n 2, 1) := by decide +kernel
theorem d6_45 : decode prog_8_method_5_code 45 = .ok (.ireturn, 1) := by decide +kernel
theorem d7_0 : decode prog_8_method_2_code 0 = .ok (.aload_n 0, 1) := by decide +kernel
theorem d7_1 : decode prog_8_method_2_code 1 = .ok (.getfield 13, 3) := by decide +kernel
theorem d7_4 : decode prog_8_method_2_code 4 = .ok (.aload_n 0, 1) := by decide +kernel
theorem d7_5 : decode prog_8_method_2_code 5 = .ok (.getfield 7, 3) := by decide +kernel
theorem d7_8 : decode prog_8_method_2_code 8 = .ok (.arraylength, 1) := by decide +kernel
theorem d7_9 : decode prog_8_method_2_code 9 = .ok (.if_icmp .ne 20, 3) := by decide +kernel
theorem d7_12 : decode prog_8_method_2_code 12 = .ok (.aload_n 0, 1) := by decide +kernel
theorem d7_13 : decode prog_8_method_2_code 13 = .ok (.aload_n 0, 1) := by decide +kernel
theorem d7_14 : decode prog_8_method_2_code 14 = .ok (.getfield 7, 3) := by decide +kernel
theorem d7_17 : decode prog_8_method_2_code 17 = .ok (.aload_n 0, 1) := by decide +kernel
theorem d7_18 : decode prog_8_method_2_code 18 = .ok (.getfield 13, 3) := by decide +kernel
theorem d7_21 : decode prog_8_method_2_code 21 = .ok (.iconst 2, 1) := by decide +kernel
theorem d7_22 : decode prog_8_method_2_code 22 = .ok (.imul, 1) := by decide +kernel
theorem d7_23 : decode prog_8_method_2_code 23 = .ok (.invokestatic 17, 3) := by decide +kernel
theorem d7_26 : decode prog_8_method_2_code 26 = .ok (.putfield 7, 3) := by decide +kernel
theorem d7_29 : decode prog_8_method_2_code 29 = .ok (.aload_n 0, 1) := by decide +kernel
theorem d7_30 : decode prog_8_method_2_code 30 = .ok (.getfield 7, 3) := by decide +kernel
theorem d7_33 : decode prog_8_method_2_code 33 = .ok (.aload_n 0, 1) := by decide +kernel
theorem d7_34 : decode prog_8_method_2_code 34 = .ok (.dup, 1) := by decide +kernel
theorem d7_35 : decode prog_8_method_2_code 35 = .ok (.getfield 13, 3) := by decide +kernel
theorem d7_38 : decode prog_8_method_2_code 38 = .ok (.dup_x1, 1) := by decide +kernel
theorem d7_39 : decode prog_8_method_2_code 39 = .ok (.iconst 1, 1) := by decide +kernel
theorem d7_40 : decode prog_8_method_2_code 40 = .ok (.iadd, 1) := by decide +kernel
theorem d7_41 : decode prog_8_method_2_code 41 = .ok (.putfield 13, 3) := by decide +kernel
theorem d7_44 : decode prog_8_method_2_code 44 = .ok (.iload_n 1, 1) := by decide +kernel
theorem d7_45 : decode prog_8_method_2_code 45 = .ok (.iastore, 1) := by decide +kernel
theorem d7_46 : decode prog_8_method_2_code 46 = .ok (.return_, 1) := by decide +kernel
theorem pn0 : plainFor (⟨"com/example/ontology_to_datalog/ontologytodatalog/datalog/IntListFirstAtLeastPinLaw", "law", "(IIIIII)Z"⟩ : MethodName) = true := plainFor_of_name (by first | (simp [plainName, overriddenIn]; done) | decide +kernel)
theorem pn1 : plainFor (⟨"java/lang/Math", "min", "(II)I"⟩ : MethodName) = true := Jvm.Free.JP.mathPlain rfl (by decide +kernel)
theorem pd1 : parseMethodDescriptor "(II)I" = some ⟨[.int, .int], some .int⟩ := by decide +kernel
theorem pn2 : plainFor (⟨"java/lang/Math", "max", "(II)I"⟩ : MethodName) = true := Jvm.Free.JP.mathPlain rfl (by decide +kernel)
theorem pd2 : parseMethodDescriptor "(II)I" = some ⟨[.int, .int], some .int⟩ := by decide +kernel
theorem pn3 : plainFor (⟨"com/example/ontology_to_datalog/ontologytodatalog/datalog/IntList", "<init>", "()V"⟩ : MethodName) = true := plainFor_of_name (by first | (simp [plainName, overriddenIn]; done) | decide +kernel)
theorem pd3 : parseMethodDescriptor "()V" = some ⟨[], none⟩ := by decide +kernel
theorem pn5 : plainFor (⟨"com/example/ontology_to_datalog/ontologytodatalog/datalog/IntListFirstAtLeastPinLaw", "below", "(ZII)I"⟩ : MethodName) = true := plainFor_of_name (by first | (simp [plainName, overriddenIn]; done) | decide +kernel)
theorem pd5 : parseMethodDescriptor "(ZII)I" = some ⟨[.boolean, .int, .int], some .int⟩ := by decide +kernel
theorem pn6 : plainFor (⟨"com/example/ontology_to_datalog/ontologytodatalog/datalog/IntList", "firstAtLeast", "(I)I"⟩ : MethodName) = true := plainFor_of_name (by first | (simp [plainName, overriddenIn]; done) | decide +kernel)
theorem pd6 : parseMethodDescriptor "(I)I" = some ⟨[.int], some .int⟩ := by decide +kernel
theorem pn7 : plainFor (⟨"com/example/ontology_to_datalog/ontologytodatalog/datalog/IntList", "add", "(I)V"⟩ : MethodName) = true := plainFor_of_name (by first | (simp [plainName, overriddenIn]; done) | decide +kernel)
theorem pd7 : parseMethodDescriptor "(I)V" = some ⟨[.int], none⟩ := by decide +kernel
def CK : oK
  | 0 => ("com/example/ontology_to_datalog/ontologytodatalog/datalog/IntList", [("com/example/ontology_to_datalog/ontologytodatalog/datalog/IntList", "values", "[I"), ("com/example/ontology_to_datalog/ontologytodatalog/datalog/IntList", "size", "I")])
  | _ => ("", [])
theorem kok0 {Z : State} {a0 : Array Value} (hw : ∀ d ∈ tables_1, d.before a0 Z = true) : oKOk Z a0 CK 0 := ⟨⟨⟨Or.inl (hw _ (List.mem_of_getElem? (i := 19) rfl)), (.array .int), by decide⟩, ⟨⟨Or.inl (hw _ (List.mem_of_getElem? (i := 30) rfl)), .int, by decide⟩, trivial⟩⟩, oDistinct.of (by decide)⟩
/-! the plain law -/
def jmin (x y : Int32) : Int32 := if y < x then y else x
def jmax (x y : Int32) : Int32 := if x < y then y else x
def below (p x b : Int32) : Int32 := if p = 0 then 0 else if x < b then 1 else 0
theorem jmin_le (x y : Int32) : (jmin x y).toInt ≤ x.toInt ∧ (jmin x y).toInt ≤ y.toInt ∧ (jmin x y = x ∨ jmin x y = y) := by
  unfold jmin; split <;> rename_i h <;> rw [Int32.lt_iff_toInt_lt] at h
  · exact ⟨by omega, by omega, Or.inr rfl⟩
  · exact ⟨by omega, by omega, Or.inl rfl⟩
theorem jmax_le (x y : Int32) : x.toInt ≤ (jmax x y).toInt ∧ y.toInt ≤ (jmax x y).toInt ∧ (jmax x y = x ∨ jmax x y = y) := by
  unfold jmax; split <;> rename_i h <;> rw [Int32.lt_iff_toInt_lt] at h
  · exact ⟨by omega, by omega, Or.inr rfl⟩
  · exact ⟨by omega, by omega, Or.inl rfl⟩
theorem rem5 (x : Int32) : (x &&& 2147483647) % 5 = 0 ∨ (x &&& 2147483647) % 5 = 1 ∨ (x &&& 2147483647) % 5 = 2 ∨ (x &&& 2147483647) % 5 = 3 ∨ (x &&& 2147483647) % 5 = 4 := by
  have h1 := c_mask x 2147483647 31 (by decide) (by decide)
  have h2 := (c_irem (x &&& 2147483647) 5 5 rfl).1 (by rw [h1]; omega)
  have h3 : ((x &&& 2147483647) % 5).toInt = 0 ∨ ((x &&& 2147483647) % 5).toInt = 1 ∨ ((x &&& 2147483647) % 5).toInt = 2 ∨ ((x &&& 2147483647) % 5).toInt = 3 ∨ ((x &&& 2147483647) % 5).toInt = 4 := by omega
  rcases h3 with h | h | h | h | h
  · exact Or.inl (Int32.toInt_inj.mp h)
  · exact Or.inr (Or.inl (Int32.toInt_inj.mp h))
  · exact Or.inr (Or.inr (Or.inl (Int32.toInt_inj.mp h)))
  · exact Or.inr (Or.inr (Or.inr (Or.inl (Int32.toInt_inj.mp h))))
  · exact Or.inr (Or.inr (Or.inr (Or.inr (Int32.toInt_inj.mp h))))
theorem half {s : Nat} (h : s < 2147483648) : jushr (Int32.ofNat s) 1 = Int32.ofNat (s / 2) := i32_of (by rw [u32_ushr, u32_of s (by omega)]; rfl)
theorem lt_of {i j : Nat} (hi : i < 2147483648) (hj : j < 2147483648) : Int32.ofNat i < Int32.ofNat j ↔ i < j := by rw [Int32.lt_iff_toInt_lt, toInt_of hi, toInt_of hj]; omega
/-- what the search finds -/
def Cut (el : Nat → Int32) (b : Int32) (n k : Nat) : Prop := k ≤ n ∧ (∀ i, i < k → el i < b) ∧ ∀ i, k ≤ i → i < n → ¬ el i < b
/-! the walks -/
theorem m1 {l : Launch} {Z : State} {a0 : Array Value} (hw : ∀ d ∈ tables_1, d.before a0 Z = true) {ρ : oM} {A : oH} (x y : Int32) : Met l Z CK ρ (⟨"java/lang/Math", "min", "(II)I"⟩ : MethodName) jdk_29_method_69_code 2 (some .int) ({ frames := 0, cells := 0, slots := 0, locals := 0 } : Room) [] [.int x, .int y] A (some (.int (jmin x y))) A := by
  refine Met.of (L0 := [.val (.int x), .val (.int y)]) pn1 (oentry rfl) rfl ?_
  refine Ends.st (b := (1, _, _, _, 0, 0)) (s_iloadN d1_0 rfl) ?_
  refine Ends.st (b := (2, _, _, _, 0, 0)) (s_iloadN d1_1 rfl) ?_
  refine Ends.icmp_gt (pc' := 9) d1_2 (by decide) (by decide) (fun h => ?_) (fun h => ?_)
  · skip
    rw [show jmin x y = y from if_pos h]
    refine Ends.st (b := (10, _, _, _, 0, 0)) (s_iloadN d1_9 rfl) ?_
    exact e_ireturn d1_10 rfl (by decide) (by decide)
  · skip
    rw [show jmin x y = x from if_neg h]
    refine Ends.st (b := (6, _, _, _, 0, 0)) (s_iloadN d1_5 rfl) ?_
    refine Ends.st (b := (10, _, _, _, 0, 0)) (s_goto d1_6 (by decide) (by decide)) ?_
    exact e_ireturn d1_10 rfl (by decide) (by decide)
theorem m2 {l : Launch} {Z : State} {a0 : Array Value} (hw : ∀ d ∈ tables_1, d.before a0 Z = true) {ρ : oM} {A : oH} (x y : Int32) : Met l Z CK ρ (⟨"java/lang/Math", "max", "(II)I"⟩ : MethodName) jdk_29_method_65_code 2 (some .int) ({ frames := 0, cells := 0, slots := 0, locals := 0 } : Room) [] [.int x, .int y] A (some (.int (jmax x y))) A := by
  refine Met.of (L0 := [.val (.int x), .val (.int y)]) pn2 (oentry rfl) rfl ?_
  refine Ends.st (b := (1, _, _, _, 0, 0)) (s_iloadN d2_0 rfl) ?_
  refine Ends.st (b := (2, _, _, _, 0, 0)) (s_iloadN d2_1 rfl) ?_
  refine Ends.icmp_lt (pc' := 9) d2_2 (by decide) (by decide) (fun h => ?_) (fun h => ?_)
  · skip
    rw [show jmax x y = y from if_pos h]
    refine Ends.st (b := (10, _, _, _, 0, 0)) (s_iloadN d2_9 rfl) ?_
    exact e_ireturn d2_10 rfl (by decide) (by decide)
  · skip
    rw [show jmax x y = x from if_neg h]
    refine Ends.st (b := (6, _, _, _, 0, 0)) (s_iloadN d2_5 rfl) ?_
    refine Ends.st (b := (10, _, _, _, 0, 0)) (s_goto d2_6 (by decide) (by decide)) ?_
    exact e_ireturn d2_10 rfl (by decide) (by decide)
theorem m3 {l : Launch} {Z : State} {a0 : Array Value} (hw : ∀ d ∈ tables_1, d.before a0 Z = true) {ρ : oM}  : Met l Z CK ρ (⟨"com/example/ontology_to_datalog/ontologytodatalog/datalog/IntList", "<init>", "()V"⟩ : MethodName) prog_8_method_1_code 1 none ({ frames := 1, cells := 1, slots := 4, locals := 12 } : Room) [] [.ref 0] [.inl (0, [.null, .int 0])] none [.inl (0, [.ref 1, .int 0]), .inr (.int, [.int 0, .int 0, .int 0, .int 0])] := by
  refine Met.of (L0 := [.val (.ref 0)]) pn3 (oentry rfl) rfl ?_
  refine Ends.st (b := (1, _, _, _, 0, 0)) (s_aloadN d3_0 rfl rfl) ?_
  refine Ends.st (b := (4, _, _, _, 0, 0)) (s_initO (W := 0) (hw _ (List.mem_of_getElem? (i := 14) rfl)) (hw _ (List.mem_of_getElem? (i := 15) rfl)) (hw _ (List.mem_of_getElem? (i := 16) rfl)) d3_1 (by decide) rfl (by decide)) ?_
  refine Ends.st (b := (5, _, _, _, 0, 0)) (s_aloadN d3_4 rfl rfl) ?_
  refine Ends.st (b := (6, _, _, _, 0, 0)) (s_iconst (z := 4) d3_5 rfl) ?_
  refine Ends.st (b := (8, _, _, [.inl (_, [_, _]), .inr (_, [_, _, _, _])], 1, 4)) (s_newarray (j := 1) (q := 4) (cap := 4) (hw _ (List.mem_of_getElem? (i := 17) rfl)) d3_6 rfl (by decide) (by decide) (by decide) (by decide) (by decide) (by decide) rfl) ?_
  refine Ends.st (b := (11, _, _, [.inl (_, [_, _]), .inr (_, [_, _, _, _])], 1, 4)) (s_putfield (cid := 0) (i := 0) (hw _ (List.mem_of_getElem? (i := 18) rfl)) (kok0 hw) rfl (Or.inl (hw _ (List.mem_of_getElem? (i := 19) rfl))) (hw _ (List.mem_of_getElem? (i := 9) rfl)) (ty := (.array .int)) (by decide) rfl rfl d3_8 rfl rfl rfl) ?_
  exact e_return d3_11 rfl (by decide) (by decide)
theorem m5 {l : Launch} {Z : State} {a0 : Array Value} (hw : ∀ d ∈ tables_1, d.before a0 Z = true) {ρ : oM} {A : oH} (p x b : Int32) : Met l Z CK ρ (⟨"com/example/ontology_to_datalog/ontologytodatalog/datalog/IntListFirstAtLeastPinLaw", "below", "(ZII)I"⟩ : MethodName) method_2_code 3 (some .int) ({ frames := 0, cells := 0, slots := 0, locals := 0 } : Room) [] [.int p, .int x, .int b] A (some (.int (below p x b))) A := by
  refine Met.of (L0 := [.val (.int p), .val (.int x), .val (.int b)]) pn5 (oentry rfl) rfl ?_
  refine Ends.st (b := (1, _, _, _, 0, 0)) (s_iloadN d5_0 rfl) ?_
  refine Ends.if_eq (pc' := 11) d5_1 (by decide) (by decide) (fun h => ?_) (fun h => ?_)
  · skip
    rw [show below p x b = 0 from if_pos h]
    refine Ends.st (b := (12, _, _, _, 0, 0)) (s_iconst (z := 0) d5_11 rfl) ?_
    exact e_ireturn d5_12 rfl (by decide) (by decide)
  · skip
    refine Ends.st (b := (5, _, _, _, 0, 0)) (s_iloadN d5_4 rfl) ?_
    refine Ends.st (b := (6, _, _, _, 0, 0)) (s_iloadN d5_5 rfl) ?_
    refine Ends.icmp_ge (pc' := 11) d5_6 (by decide) (by decide) (fun g => ?_) (fun g => ?_)
    · skip
      rw [show below p x b = 0 from (if_neg h).trans (if_neg g)]
      refine Ends.st (b := (12, _, _, _, 0, 0)) (s_iconst (z := 0) d5_11 rfl) ?_
      exact e_ireturn d5_12 rfl (by decide) (by decide)
    · skip
      rw [show below p x b = 1 from (if_neg h).trans (if_pos g)]
      refine Ends.st (b := (10, _, _, _, 0, 0)) (s_iconst (z := 1) d5_9 rfl) ?_
      exact e_ireturn d5_10 rfl (by decide) (by decide)
theorem loop6 {l : Launch} {Z : State} {a0 : Array Value} (hw : ∀ d ∈ tables_1, d.before a0 Z = true) {ρ : oM} {n : Nat} {vs : List Value} {el : Nat → Int32} (b : Int32) (hn : n ≤ 1000) (he : ∀ i, i < n → vs[i]? = some (.int (el i))) (hs : ∀ i j, i ≤ j → j < n → (el i).toInt ≤ (el j).toInt) (d : Nat) : ∀ (lo hi : Nat) (sl : Slot), One sl → hi ≤ lo + d → lo ≤ hi → hi ≤ n → (∀ i, i < lo → el i < b) → (∀ i, hi ≤ i → i < n → ¬ el i < b) → ∃ k, Cut el b n k ∧ Ends l Z CK ρ "com/example/ontology_to_datalog/ontologytodatalog/datalog/IntList" "firstAtLeast" prog_8_method_5_code 5 ({ frames := 0, cells := 0, slots := 0, locals := 0 } : Room) (some .int) (7, [.val (.ref 0), .val (.int b), .val (.int (Int32.ofNat lo)), .val (.int (Int32.ofNat hi)), sl], [], [.inl (0, [.ref 1, .int (Int32.ofNat n)]), .inr (.int, vs)], 0, 0) (some (.int (Int32.ofNat k))) [.inl (0, [.ref 1, .int (Int32.ofNat n)]), .inr (.int, vs)] := by
  induction d with
  | zero =>
    intro lo hi sl h1 hd hlh hhn hlo hhi
    refine ⟨lo, ⟨by omega, hlo, fun i q1 q2 => hhi i (by omega) q2⟩, ?_⟩
    refine Ends.st (b := (8, _, _, _, 0, 0)) (s_iloadN d6_7 rfl) ?_
    refine Ends.st (b := (9, _, _, _, 0, 0)) (s_iloadN d6_8 rfl) ?_
    refine Ends.st (b := (44, _, _, _, 0, 0)) (s_icmp_ge_t d6_9 (fun q => by rw [lt_of (by omega) (by omega)] at q; omega) (by decide) (by decide)) ?_
    refine Ends.st (b := (45, _, _, _, 0, 0)) (s_iloadN d6_44 rfl) ?_
    exact e_ireturn d6_45 rfl (by decide) (by decide)
  | succ d ih =>
    intro lo hi sl h1 hd hlh hhn hlo hhi
    by_cases hlt : lo < hi
    · have e1 : Int32.ofNat lo + Int32.ofNat hi = Int32.ofNat (lo + hi) := (Int32.ofNat_add lo hi).symm
      obtain ⟨mid, hm⟩ : ∃ mid, mid = (lo + hi) / 2 := ⟨_, rfl⟩
      have e2 : jushr (Int32.ofNat lo + Int32.ofNat hi) 1 = Int32.ofNat mid := by rw [e1, half (by omega), hm]
      by_cases hb : el mid < b
      · obtain ⟨k, hk, hE⟩ := ih (mid + 1) hi (.val (.int (Int32.ofNat mid))) (One.val rfl) (by omega) (by omega) hhn (fun i q => by
          have := hs i mid (by omega) (by omega); rw [Int32.lt_iff_toInt_lt] at hb ⊢; omega) hhi
        refine ⟨k, hk, ?_⟩
        refine Ends.st (b := (8, _, _, _, 0, 0)) (s_iloadN d6_7 rfl) ?_
        refine Ends.st (b := (9, _, _, _, 0, 0)) (s_iloadN d6_8 rfl) ?_
        refine Ends.st (b := (12, _, _, _, 0, 0)) (s_icmp_ge_f d6_9 ((lt_of (by omega) (by omega)).mpr hlt)) ?_
        refine Ends.st (b := (13, _, _, _, 0, 0)) (s_iloadN d6_12 rfl) ?_
        refine Ends.st (b := (14, _, _, _, 0, 0)) (s_iloadN d6_13 rfl) ?_
        refine Ends.st (b := (15, _, _, _, 0, 0)) (s_iadd d6_14) ?_
        refine Ends.st (b := (16, _, _, _, 0, 0)) (s_iconst (z := 1) d6_15 rfl) ?_
        refine Ends.st (b := (17, _, _, _, 0, 0)) (s_iushr d6_16) ?_
        rw [e2]
        refine Ends.st (b := (19, [_, _, _, _, _], _, _, 0, 0)) (s_istore d6_17 (oSt_one rfl h1 rfl)) ?_
        refine Ends.st (b := (20, _, _, _, 0, 0)) (s_aloadN d6_19 rfl rfl) ?_
        refine Ends.st (b := (23, _, _, _, 0, 0)) (s_getfield (cid := 0) (i := 0) (hw _ (List.mem_of_getElem? (i := 18) rfl)) rfl d6_20 rfl rfl) ?_
        refine Ends.st (b := (25, _, _, _, 0, 0)) (s_iload d6_23 rfl) ?_
        refine Ends.st (b := (26, _, _, _, 0, 0)) (s_iaload d6_25 rfl (nneg_of (by omega)) (by rw [tnc_of (by omega)]; exact he mid (by omega))) ?_
        refine Ends.st (b := (27, _, _, _, 0, 0)) (s_iloadN d6_26 rfl) ?_
        refine Ends.st (b := (30, _, _, _, 0, 0)) (s_icmp_ge_f d6_27 hb) ?_
        refine Ends.st (b := (32, _, _, _, 0, 0)) (s_iload d6_30 rfl) ?_
        refine Ends.st (b := (33, _, _, _, 0, 0)) (s_iconst (z := 1) d6_32 rfl) ?_
        refine Ends.st (b := (34, _, _, _, 0, 0)) (s_iadd d6_33) ?_
        rw [show Int32.ofNat mid + 1 = Int32.ofNat (mid + 1) from (Int32.ofNat_add mid 1).symm]
        refine Ends.st (b := (35, [_, _, _, _, _], _, _, 0, 0)) (s_istoreN d6_34 rfl) ?_
        refine Ends.st (b := (41, _, _, _, 0, 0)) (s_goto d6_35 (by decide) (by decide)) ?_
        exact Ends.st (s_goto d6_41 (by decide) (by decide)) hE
      · obtain ⟨k, hk, hE⟩ := ih lo mid (.val (.int (Int32.ofNat mid))) (One.val rfl) (by omega) (by omega) (by omega) hlo (fun i q q' => by
          have := hs mid i (by omega) q'; rw [Int32.lt_iff_toInt_lt] at hb ⊢; omega)
        refine ⟨k, hk, ?_⟩
        refine Ends.st (b := (8, _, _, _, 0, 0)) (s_iloadN d6_7 rfl) ?_
        refine Ends.st (b := (9, _, _, _, 0, 0)) (s_iloadN d6_8 rfl) ?_
        refine Ends.st (b := (12, _, _, _, 0, 0)) (s_icmp_ge_f d6_9 ((lt_of (by omega) (by omega)).mpr hlt)) ?_
        refine Ends.st (b := (13, _, _, _, 0, 0)) (s_iloadN d6_12 rfl) ?_
        refine Ends.st (b := (14, _, _, _, 0, 0)) (s_iloadN d6_13 rfl) ?_
        refine Ends.st (b := (15, _, _, _, 0, 0)) (s_iadd d6_14) ?_
        refine Ends.st (b := (16, _, _, _, 0, 0)) (s_iconst (z := 1) d6_15 rfl) ?_
        refine Ends.st (b := (17, _, _, _, 0, 0)) (s_iushr d6_16) ?_
        rw [e2]
        refine Ends.st (b := (19, [_, _, _, _, _], _, _, 0, 0)) (s_istore d6_17 (oSt_one rfl h1 rfl)) ?_
        refine Ends.st (b := (20, _, _, _, 0, 0)) (s_aloadN d6_19 rfl rfl) ?_
        refine Ends.st (b := (23, _, _, _, 0, 0)) (s_getfield (cid := 0) (i := 0) (hw _ (List.mem_of_getElem? (i := 18) rfl)) rfl d6_20 rfl rfl) ?_
        refine Ends.st (b := (25, _, _, _, 0, 0)) (s_iload d6_23 rfl) ?_
        refine Ends.st (b := (26, _, _, _, 0, 0)) (s_iaload d6_25 rfl (nneg_of (by omega)) (by rw [tnc_of (by omega)]; exact he mid (by omega))) ?_
        refine Ends.st (b := (27, _, _, _, 0, 0)) (s_iloadN d6_26 rfl) ?_
        refine Ends.st (b := (38, _, _, _, 0, 0)) (s_icmp_ge_t d6_27 hb (by decide) (by decide)) ?_
        refine Ends.st (b := (40, _, _, _, 0, 0)) (s_iload d6_38 rfl) ?_
        refine Ends.st (b := (41, [_, _, _, _, _], _, _, 0, 0)) (s_istoreN d6_40 rfl) ?_
        exact Ends.st (s_goto d6_41 (by decide) (by decide)) hE
    · refine ⟨lo, ⟨by omega, hlo, fun i q1 q2 => hhi i (by omega) q2⟩, ?_⟩
      refine Ends.st (b := (8, _, _, _, 0, 0)) (s_iloadN d6_7 rfl) ?_
      refine Ends.st (b := (9, _, _, _, 0, 0)) (s_iloadN d6_8 rfl) ?_
      refine Ends.st (b := (44, _, _, _, 0, 0)) (s_icmp_ge_t d6_9 (fun q => hlt ((lt_of (by omega) (by omega)).mp q)) (by decide) (by decide)) ?_
      refine Ends.st (b := (45, _, _, _, 0, 0)) (s_iloadN d6_44 rfl) ?_
      exact e_ireturn d6_45 rfl (by decide) (by decide)
theorem m6 {l : Launch} {Z : State} {a0 : Array Value} (hw : ∀ d ∈ tables_1, d.before a0 Z = true) {ρ : oM} {n : Nat} {vs : List Value} {el : Nat → Int32} (b : Int32) (hn : n ≤ 1000) (he : ∀ i, i < n → vs[i]? = some (.int (el i))) (hs : ∀ i j, i ≤ j → j < n → (el i).toInt ≤ (el j).toInt) : ∃ k, Cut el b n k ∧ Met l Z CK ρ (⟨"com/example/ontology_to_datalog/ontologytodatalog/datalog/IntList", "firstAtLeast", "(I)I"⟩ : MethodName) prog_8_method_5_code 5 (some .int) ({ frames := 0, cells := 0, slots := 0, locals := 0 } : Room) [] [.ref 0, .int b] [.inl (0, [.ref 1, .int (Int32.ofNat n)]), .inr (.int, vs)] (some (.int (Int32.ofNat k))) [.inl (0, [.ref 1, .int (Int32.ofNat n)]), .inr (.int, vs)] := by
  obtain ⟨k, hk, hE⟩ := loop6 (l := l) (ρ := ρ) hw b hn he hs n 0 n .unset One.u (by omega) (by omega) (by omega) (fun i q => absurd q (by omega)) (fun i q q' => absurd q' (by omega))
  refine ⟨k, hk, ?_⟩
  refine Met.of (L0 := [.val (.ref 0), .val (.int b), .unset, .unset, .unset]) pn6 (oentry rfl) rfl ?_
  refine Ends.st (b := (1, _, _, _, 0, 0)) (s_iconst (z := 0) d6_0 rfl) ?_
  refine Ends.st (b := (2, [_, _, _, _, _], _, _, 0, 0)) (s_istoreN d6_1 rfl) ?_
  refine Ends.st (b := (3, _, _, _, 0, 0)) (s_aloadN d6_2 rfl rfl) ?_
  refine Ends.st (b := (6, _, _, _, 0, 0)) (s_getfield (cid := 0) (i := 1) (hw _ (List.mem_of_getElem? (i := 29) rfl)) rfl d6_3 rfl rfl) ?_
  refine Ends.st (b := (7, [_, _, _, _, _], _, _, 0, 0)) (s_istoreN d6_6 rfl) ?_
  exact hE
theorem m7 {l : Launch} {Z : State} {a0 : Array Value} (hw : ∀ d ∈ tables_1, d.before a0 Z = true) {ρ : oM} {vs : List Value} (k k' v : Int32) (i : Nat) (h0 : ¬ k < 0) (hk : k.toNatClampNeg = i) (hl : vs.length = 4) (hi : i < 4) (hne : ¬ k = 4) (hk' : k + 1 = k') : Met l Z CK ρ (⟨"com/example/ontology_to_datalog/ontologytodatalog/datalog/IntList", "add", "(I)V"⟩ : MethodName) prog_8_method_2_code 2 none ({ frames := 0, cells := 0, slots := 0, locals := 0 } : Room) [] [.ref 0, .int v] [.inl (0, [.ref 1, .int k]), .inr (.int, vs)] none [.inl (0, [.ref 1, .int k']), .inr (.int, vs.set i (.int v))] := by
  refine Met.of (L0 := [.val (.ref 0), .val (.int v)]) pn7 (oentry rfl) rfl ?_
  refine Ends.st (b := (1, _, _, _, 0, 0)) (s_aloadN d7_0 rfl rfl) ?_
  refine Ends.st (b := (4, _, _, _, 0, 0)) (s_getfield (cid := 0) (i := 1) (hw _ (List.mem_of_getElem? (i := 29) rfl)) rfl d7_1 rfl rfl) ?_
  refine Ends.st (b := (5, _, _, _, 0, 0)) (s_aloadN d7_4 rfl rfl) ?_
  refine Ends.st (b := (8, _, _, _, 0, 0)) (s_getfield (cid := 0) (i := 0) (hw _ (List.mem_of_getElem? (i := 18) rfl)) rfl d7_5 rfl rfl) ?_
  refine Ends.st (b := (9, _, _, _, 0, 0)) (s_arraylength d7_8 rfl) ?_
  refine Ends.st (b := (29, _, _, _, 0, 0)) (s_icmp_ne_t d7_9 (by rw [hl]; exact hne) (by decide) (by decide)) ?_
  refine Ends.st (b := (30, _, _, _, 0, 0)) (s_aloadN d7_29 rfl rfl) ?_
  refine Ends.st (b := (33, _, _, _, 0, 0)) (s_getfield (cid := 0) (i := 0) (hw _ (List.mem_of_getElem? (i := 18) rfl)) rfl d7_30 rfl rfl) ?_
  refine Ends.st (b := (34, _, _, _, 0, 0)) (s_aloadN d7_33 rfl rfl) ?_
  refine Ends.st (b := (35, _, _, _, 0, 0)) (s_dup d7_34 rfl) ?_
  refine Ends.st (b := (38, _, _, _, 0, 0)) (s_getfield (cid := 0) (i := 1) (hw _ (List.mem_of_getElem? (i := 29) rfl)) rfl d7_35 rfl rfl) ?_
  refine Ends.st (b := (39, _, _, _, 0, 0)) (s_dupX1 d7_38 rfl rfl) ?_
  refine Ends.st (b := (40, _, _, _, 0, 0)) (s_iconst (z := 1) d7_39 rfl) ?_
  refine Ends.st (b := (41, _, _, _, 0, 0)) (s_iadd d7_40) ?_
  rw [hk']
  refine Ends.st (b := (44, _, _, [.inl (_, [_, _]), _], 0, 0)) (s_putfield (cid := 0) (i := 1) (hw _ (List.mem_of_getElem? (i := 29) rfl)) (kok0 hw) rfl (Or.inl (hw _ (List.mem_of_getElem? (i := 30) rfl))) (hw _ (List.mem_of_getElem? (i := 9) rfl)) (ty := .int) (by decide) rfl rfl d7_41 rfl rfl rfl) ?_
  refine Ends.st (b := (45, _, _, _, 0, 0)) (s_iloadN d7_44 rfl) ?_
  refine Ends.st (b := (46, _, _, [_, .inr (_, vs.set i _)], 0, 0)) (s_iastore d7_45 rfl h0 (by rw [hk, hl]; exact hi) (by rw [hk]; rfl)) ?_
  exact e_return d7_46 rfl (by decide) (by decide)
theorem tl0 {l : Launch} {Z : State} {a0 : Array Value} (hw : ∀ d ∈ tables_1, d.before a0 Z = true) {ρ : oM} (nr a b d e bd x0 x1 x2 x3 y0 y2 y1 y3 s1 s2 : Int32) (h1 : y0.toInt ≤ s1.toInt) (h2 : s1.toInt ≤ s2.toInt) (h3 : s2.toInt ≤ y3.toInt) : EndsE l Z CK ρ "com/example/ontology_to_datalog/ontologytodatalog/datalog/IntListFirstAtLeastPinLaw" "law" code maxLocals room_1 ret (101, [.val (.int nr), .val (.int a), .val (.int b), .val (.int d), .val (.int e), .val (.int bd), .val (.int 0), .val (.int x0), .val (.int x1), .val (.int x2), .val (.int x3), .val (.int y0), .val (.int y2), .val (.int y1), .val (.int y3), .val (.int s1), .val (.int s2), .val (.ref 0), .unset, .unset], [], [.inl (0, [.ref 1, .int 0]), .inr (.int, [.int 0, .int 0, .int 0, .int 0])], 2, 6) (some (.int 1)) := by
  obtain ⟨k, hk, hM⟩ := m6 (l := l) (ρ := ρ) hw (n := 0) (vs := [.int 0, .int 0, .int 0, .int 0]) (el := fun i => if i = 0 then y0 else if i = 1 then s1 else if i = 2 then s2 else y3) bd (by decide) (fun i hi => by match i, hi with
      | i, h => exact absurd h (by omega)) (fun i j q1 q2 => by
      exact absurd q2 (by omega))
  have hres : Int32.ofNat k = below 0 y0 bd + below 0 s1 bd + below 0 s2 bd + below 0 y3 bd := by
    obtain ⟨g1, g2, g3⟩ := hk
    match k, g1 with
    | 0, _ =>
      rw [show below 0 y0 bd = 0 from rfl, show below 0 s1 bd = 0 from rfl, show below 0 s2 bd = 0 from rfl, show below 0 y3 bd = 0 from rfl]; rfl
  refine EndsE.st (b := (103, _, _, _, 2, 6)) (s_iload at_101 rfl) ?_
  refine EndsE.st (b := (113, _, _, _, 2, 6)) (s_if_le_t at_103 (by decide) (by decide) (by decide)) ?_
  refine EndsE.st (b := (115, _, _, _, 2, 6)) (s_iload at_113 rfl) ?_
  refine EndsE.st (b := (116, _, _, _, 2, 6)) (s_iconst (z := 1) at_115 rfl) ?_
  refine EndsE.st (b := (126, _, _, _, 2, 6)) (s_icmp_le_t at_116 (by decide) (by decide) (by decide)) ?_
  refine EndsE.st (b := (128, _, _, _, 2, 6)) (s_iload at_126 rfl) ?_
  refine EndsE.st (b := (129, _, _, _, 2, 6)) (s_iconst (z := 2) at_128 rfl) ?_
  refine EndsE.st (b := (139, _, _, _, 2, 6)) (s_icmp_le_t at_129 (by decide) (by decide) (by decide)) ?_
  refine EndsE.st (b := (141, _, _, _, 2, 6)) (s_iload at_139 rfl) ?_
  refine EndsE.st (b := (142, _, _, _, 2, 6)) (s_iconst (z := 3) at_141 rfl) ?_
  refine EndsE.st (b := (152, _, _, _, 2, 6)) (s_icmp_le_t at_142 (by decide) (by decide) (by decide)) ?_
  refine EndsE.st (b := (154, _, _, _, 2, 6)) (s_iload at_152 rfl) ?_
  refine EndsE.st (b := (161, _, _, _, 2, 6)) (s_if_le_t at_154 (by decide) (by decide) (by decide)) ?_
  refine EndsE.st (b := (162, _, _, _, 2, 6)) (s_iconst (z := 0) at_161 rfl) ?_
  refine EndsE.st (b := (164, _, _, _, 2, 6)) (s_iload at_162 rfl) ?_
  refine EndsE.st (b := (166, _, _, _, 2, 6)) (s_iload at_164 rfl) ?_
  refine EndsE.st (b := (169, _, [_], _, 2, 6)) (s_callS (W := 0) (hw _ (List.mem_of_getElem? (i := 20) rfl)) (hw _ (List.mem_of_getElem? (i := 21) rfl)) (hw _ (List.mem_of_getElem? (i := 22) rfl)) (hw _ (List.mem_of_getElem? (i := 23) rfl)) (by decide) (lenOf pd5 rfl) at_166 (m5 hw _ _ _) rfl rfl (by decide) (by decide) (by decide) (by decide)) ?_
  refine EndsE.st (b := (171, _, _, _, 2, 6)) (s_iload at_169 rfl) ?_
  refine EndsE.st (b := (172, _, _, _, 2, 6)) (s_iconst (z := 1) at_171 rfl) ?_
  refine EndsE.st (b := (179, _, _, _, 2, 6)) (s_icmp_le_t at_172 (by decide) (by decide) (by decide)) ?_
  refine EndsE.st (b := (180, _, _, _, 2, 6)) (s_iconst (z := 0) at_179 rfl) ?_
  refine EndsE.st (b := (182, _, _, _, 2, 6)) (s_iload at_180 rfl) ?_
  refine EndsE.st (b := (184, _, _, _, 2, 6)) (s_iload at_182 rfl) ?_
  refine EndsE.st (b := (187, _, [_, _], _, 2, 6)) (s_callS (W := 1) (hw _ (List.mem_of_getElem? (i := 20) rfl)) (hw _ (List.mem_of_getElem? (i := 21) rfl)) (hw _ (List.mem_of_getElem? (i := 22) rfl)) (hw _ (List.mem_of_getElem? (i := 23) rfl)) (by decide) (lenOf pd5 rfl) at_184 (m5 hw _ _ _) rfl rfl (by decide) (by decide) (by decide) (by decide)) ?_
  refine EndsE.st (b := (188, _, _, _, 2, 6)) (s_iadd at_187) ?_
  refine EndsE.st (b := (190, _, _, _, 2, 6)) (s_iload at_188 rfl) ?_
  refine EndsE.st (b := (191, _, _, _, 2, 6)) (s_iconst (z := 2) at_190 rfl) ?_
  refine EndsE.st (b := (198, _, _, _, 2, 6)) (s_icmp_le_t at_191 (by decide) (by decide) (by decide)) ?_
  refine EndsE.st (b := (199, _, _, _, 2, 6)) (s_iconst (z := 0) at_198 rfl) ?_
  refine EndsE.st (b := (201, _, _, _, 2, 6)) (s_iload at_199 rfl) ?_
  refine EndsE.st (b := (203, _, _, _, 2, 6)) (s_iload at_201 rfl) ?_
  refine EndsE.st (b := (206, _, [_, _], _, 2, 6)) (s_callS (W := 1) (hw _ (List.mem_of_getElem? (i := 20) rfl)) (hw _ (List.mem_of_getElem? (i := 21) rfl)) (hw _ (List.mem_of_getElem? (i := 22) rfl)) (hw _ (List.mem_of_getElem? (i := 23) rfl)) (by decide) (lenOf pd5 rfl) at_203 (m5 hw _ _ _) rfl rfl (by decide) (by decide) (by decide) (by decide)) ?_
  refine EndsE.st (b := (207, _, _, _, 2, 6)) (s_iadd at_206) ?_
  refine EndsE.st (b := (209, _, _, _, 2, 6)) (s_iload at_207 rfl) ?_
  refine EndsE.st (b := (210, _, _, _, 2, 6)) (s_iconst (z := 3) at_209 rfl) ?_
  refine EndsE.st (b := (217, _, _, _, 2, 6)) (s_icmp_le_t at_210 (by decide) (by decide) (by decide)) ?_
  refine EndsE.st (b := (218, _, _, _, 2, 6)) (s_iconst (z := 0) at_217 rfl) ?_
  refine EndsE.st (b := (220, _, _, _, 2, 6)) (s_iload at_218 rfl) ?_
  refine EndsE.st (b := (222, _, _, _, 2, 6)) (s_iload at_220 rfl) ?_
  refine EndsE.st (b := (225, _, [_, _], _, 2, 6)) (s_callS (W := 1) (hw _ (List.mem_of_getElem? (i := 20) rfl)) (hw _ (List.mem_of_getElem? (i := 21) rfl)) (hw _ (List.mem_of_getElem? (i := 22) rfl)) (hw _ (List.mem_of_getElem? (i := 23) rfl)) (by decide) (lenOf pd5 rfl) at_222 (m5 hw _ _ _) rfl rfl (by decide) (by decide) (by decide) (by decide)) ?_
  refine EndsE.st (b := (226, _, _, _, 2, 6)) (s_iadd at_225) ?_
  refine EndsE.st (b := (228, [_, _, _, _, _, _, _, _, _, _, _, _, _, _, _, _, _, _, _, _], _, _, 2, 6)) (s_istore at_226 rfl) ?_
  refine EndsE.st (b := (230, _, _, _, 2, 6)) (s_aload at_228 rfl rfl) ?_
  refine EndsE.st (b := (232, _, _, _, 2, 6)) (s_iload at_230 rfl) ?_
  refine EndsE.st (b := (235, _, [_], _, 2, 6)) (s_callV (W := 0) (cid := 0) (hw _ (List.mem_of_getElem? (i := 24) rfl)) (hw _ (List.mem_of_getElem? (i := 26) rfl)) (hw _ (List.mem_of_getElem? (i := 10) rfl)) (hw _ (List.mem_of_getElem? (i := 28) rfl)) (hw _ (List.mem_of_getElem? (i := 25) rfl)) (hw _ (List.mem_of_getElem? (i := 27) rfl)) (by decide) rfl (lenOf pd6 rfl) at_232 rfl (hM) rfl rfl (by decide) (by decide) (by decide) (by decide)) ?_
  refine EndsE.st (b := (237, [_, _, _, _, _, _, _, _, _, _, _, _, _, _, _, _, _, _, _, _], _, _, 2, 6)) (s_istore at_235 rfl) ?_
  refine EndsE.st (b := (239, _, _, _, 2, 6)) (s_iload at_237 rfl) ?_
  refine EndsE.st (b := (241, _, _, _, 2, 6)) (s_iload at_239 rfl) ?_
  refine EndsE.st (b := (244, _, _, _, 2, 6)) (s_icmp_ne_f at_241 hres) ?_
  refine EndsE.st (b := (245, _, _, _, 2, 6)) (s_iconst (z := 1) at_244 rfl) ?_
  refine EndsE.st (b := (249, _, _, _, 2, 6)) (s_goto at_245 (by decide) (by decide)) ?_
  exact ⟨_, e_nreturn at_249 rfl (by simp) rfl (by decide) (by decide)⟩
theorem tl1 {l : Launch} {Z : State} {a0 : Array Value} (hw : ∀ d ∈ tables_1, d.before a0 Z = true) {ρ : oM} (nr a b d e bd x0 x1 x2 x3 y0 y2 y1 y3 s1 s2 : Int32) (h1 : y0.toInt ≤ s1.toInt) (h2 : s1.toInt ≤ s2.toInt) (h3 : s2.toInt ≤ y3.toInt) : EndsE l Z CK ρ "com/example/ontology_to_datalog/ontologytodatalog/datalog/IntListFirstAtLeastPinLaw" "law" code maxLocals room_1 ret (101, [.val (.int nr), .val (.int a), .val (.int b), .val (.int d), .val (.int e), .val (.int bd), .val (.int 1), .val (.int x0), .val (.int x1), .val (.int x2), .val (.int x3), .val (.int y0), .val (.int y2), .val (.int y1), .val (.int y3), .val (.int s1), .val (.int s2), .val (.ref 0), .unset, .unset], [], [.inl (0, [.ref 1, .int 0]), .inr (.int, [.int 0, .int 0, .int 0, .int 0])], 2, 6) (some (.int 1)) := by
  obtain ⟨k, hk, hM⟩ := m6 (l := l) (ρ := ρ) hw (n := 1) (vs := [.int y0, .int 0, .int 0, .int 0]) (el := fun i => if i = 0 then y0 else if i = 1 then s1 else if i = 2 then s2 else y3) bd (by decide) (fun i hi => by match i, hi with
      | 0, _ => rfl) (fun i j q1 q2 => by
      have hij : (i = 0 ∧ j = 0) := by omega
      rcases hij with ⟨rfl, rfl⟩ <;> first | exact Int.le_refl _ | exact h1 | exact h2 | exact h3 | exact Int.le_trans h1 h2 | exact Int.le_trans h2 h3 | exact Int.le_trans h1 (Int.le_trans h2 h3))
  have hres : Int32.ofNat k = below 1 y0 bd + below 0 s1 bd + below 0 s2 bd + below 0 y3 bd := by
    obtain ⟨g1, g2, g3⟩ := hk
    match k, g1 with
    | 0, _ =>
      have p0 : ¬ y0 < bd := g3 0 (by omega) (by omega)
      rw [show below 1 y0 bd = 0 from (if_neg (by decide)).trans (if_neg p0), show below 0 s1 bd = 0 from rfl, show below 0 s2 bd = 0 from rfl, show below 0 y3 bd = 0 from rfl]; rfl
    | 1, _ =>
      have p0 : y0 < bd := g2 0 (by omega)
      rw [show below 1 y0 bd = 1 from (if_neg (by decide)).trans (if_pos p0), show below 0 s1 bd = 0 from rfl, show below 0 s2 bd = 0 from rfl, show below 0 y3 bd = 0 from rfl]; rfl
  refine EndsE.st (b := (103, _, _, _, 2, 6)) (s_iload at_101 rfl) ?_
  refine EndsE.st (b := (106, _, _, _, 2, 6)) (s_if_le_f at_103 (by decide)) ?_
  refine EndsE.st (b := (108, _, _, _, 2, 6)) (s_aload at_106 rfl rfl) ?_
  refine EndsE.st (b := (110, _, _, _, 2, 6)) (s_iload at_108 rfl) ?_
  refine EndsE.st (b := (113, _, [], [.inl (_, [_, _]), .inr (_, [_, _, _, _])], 2, 6)) (s_callV (W := 0) (cid := 0) (hw _ (List.mem_of_getElem? (i := 31) rfl)) (hw _ (List.mem_of_getElem? (i := 33) rfl)) (hw _ (List.mem_of_getElem? (i := 10) rfl)) (hw _ (List.mem_of_getElem? (i := 35) rfl)) (hw _ (List.mem_of_getElem? (i := 32) rfl)) (hw _ (List.mem_of_getElem? (i := 34) rfl)) (by decide) rfl (lenOf pd7 rfl) at_110 rfl (m7 hw 0 1 _ 0 (by decide) rfl rfl (by decide) (by decide) rfl) rfl rfl (by decide) (by decide) (by decide) (by decide)) ?_
  refine EndsE.st (b := (115, _, _, _, 2, 6)) (s_iload at_113 rfl) ?_
  refine EndsE.st (b := (116, _, _, _, 2, 6)) (s_iconst (z := 1) at_115 rfl) ?_
  refine EndsE.st (b := (126, _, _, _, 2, 6)) (s_icmp_le_t at_116 (by decide) (by decide) (by decide)) ?_
  refine EndsE.st (b := (128, _, _, _, 2, 6)) (s_iload at_126 rfl) ?_
  refine EndsE.st (b := (129, _, _, _, 2, 6)) (s_iconst (z := 2) at_128 rfl) ?_
  refine EndsE.st (b := (139, _, _, _, 2, 6)) (s_icmp_le_t at_129 (by decide) (by decide) (by decide)) ?_
  refine EndsE.st (b := (141, _, _, _, 2, 6)) (s_iload at_139 rfl) ?_
  refine EndsE.st (b := (142, _, _, _, 2, 6)) (s_iconst (z := 3) at_141 rfl) ?_
  refine EndsE.st (b := (152, _, _, _, 2, 6)) (s_icmp_le_t at_142 (by decide) (by decide) (by decide)) ?_
  refine EndsE.st (b := (154, _, _, _, 2, 6)) (s_iload at_152 rfl) ?_
  refine EndsE.st (b := (157, _, _, _, 2, 6)) (s_if_le_f at_154 (by decide)) ?_
  refine EndsE.st (b := (158, _, _, _, 2, 6)) (s_iconst (z := 1) at_157 rfl) ?_
  refine EndsE.st (b := (162, _, _, _, 2, 6)) (s_goto at_158 (by decide) (by decide)) ?_
  refine EndsE.st (b := (164, _, _, _, 2, 6)) (s_iload at_162 rfl) ?_
  refine EndsE.st (b := (166, _, _, _, 2, 6)) (s_iload at_164 rfl) ?_
  refine EndsE.st (b := (169, _, [_], _, 2, 6)) (s_callS (W := 0) (hw _ (List.mem_of_getElem? (i := 20) rfl)) (hw _ (List.mem_of_getElem? (i := 21) rfl)) (hw _ (List.mem_of_getElem? (i := 22) rfl)) (hw _ (List.mem_of_getElem? (i := 23) rfl)) (by decide) (lenOf pd5 rfl) at_166 (m5 hw _ _ _) rfl rfl (by decide) (by decide) (by decide) (by decide)) ?_
  refine EndsE.st (b := (171, _, _, _, 2, 6)) (s_iload at_169 rfl) ?_
  refine EndsE.st (b := (172, _, _, _, 2, 6)) (s_iconst (z := 1) at_171 rfl) ?_
  refine EndsE.st (b := (179, _, _, _, 2, 6)) (s_icmp_le_t at_172 (by decide) (by decide) (by decide)) ?_
  refine EndsE.st (b := (180, _, _, _, 2, 6)) (s_iconst (z := 0) at_179 rfl) ?_
  refine EndsE.st (b := (182, _, _, _, 2, 6)) (s_iload at_180 rfl) ?_
  refine EndsE.st (b := (184, _, _, _, 2, 6)) (s_iload at_182 rfl) ?_
  refine EndsE.st (b := (187, _, [_, _], _, 2, 6)) (s_callS (W := 1) (hw _ (List.mem_of_getElem? (i := 20) rfl)) (hw _ (List.mem_of_getElem? (i := 21) rfl)) (hw _ (List.mem_of_getElem? (i := 22) rfl)) (hw _ (List.mem_of_getElem? (i := 23) rfl)) (by decide) (lenOf pd5 rfl) at_184 (m5 hw _ _ _) rfl rfl (by decide) (by decide) (by decide) (by decide)) ?_
  refine EndsE.st (b := (188, _, _, _, 2, 6)) (s_iadd at_187) ?_
  refine EndsE.st (b := (190, _, _, _, 2, 6)) (s_iload at_188 rfl) ?_
  refine EndsE.st (b := (191, _, _, _, 2, 6)) (s_iconst (z := 2) at_190 rfl) ?_
  refine EndsE.st (b := (198, _, _, _, 2, 6)) (s_icmp_le_t at_191 (by decide) (by decide) (by decide)) ?_
  refine EndsE.st (b := (199, _, _, _, 2, 6)) (s_iconst (z := 0) at_198 rfl) ?_
  refine EndsE.st (b := (201, _, _, _, 2, 6)) (s_iload at_199 rfl) ?_
  refine EndsE.st (b := (203, _, _, _, 2, 6)) (s_iload at_201 rfl) ?_
  refine EndsE.st (b := (206, _, [_, _], _, 2, 6)) (s_callS (W := 1) (hw _ (List.mem_of_getElem? (i := 20) rfl)) (hw _ (List.mem_of_getElem? (i := 21) rfl)) (hw _ (List.mem_of_getElem? (i := 22) rfl)) (hw _ (List.mem_of_getElem? (i := 23) rfl)) (by decide) (lenOf pd5 rfl) at_203 (m5 hw _ _ _) rfl rfl (by decide) (by decide) (by decide) (by decide)) ?_
  refine EndsE.st (b := (207, _, _, _, 2, 6)) (s_iadd at_206) ?_
  refine EndsE.st (b := (209, _, _, _, 2, 6)) (s_iload at_207 rfl) ?_
  refine EndsE.st (b := (210, _, _, _, 2, 6)) (s_iconst (z := 3) at_209 rfl) ?_
  refine EndsE.st (b := (217, _, _, _, 2, 6)) (s_icmp_le_t at_210 (by decide) (by decide) (by decide)) ?_
  refine EndsE.st (b := (218, _, _, _, 2, 6)) (s_iconst (z := 0) at_217 rfl) ?_
  refine EndsE.st (b := (220, _, _, _, 2, 6)) (s_iload at_218 rfl) ?_
  refine EndsE.st (b := (222, _, _, _, 2, 6)) (s_iload at_220 rfl) ?_
  refine EndsE.st (b := (225, _, [_, _], _, 2, 6)) (s_callS (W := 1) (hw _ (List.mem_of_getElem? (i := 20) rfl)) (hw _ (List.mem_of_getElem? (i := 21) rfl)) (hw _ (List.mem_of_getElem? (i := 22) rfl)) (hw _ (List.mem_of_getElem? (i := 23) rfl)) (by decide) (lenOf pd5 rfl) at_222 (m5 hw _ _ _) rfl rfl (by decide) (by decide) (by decide) (by decide)) ?_
  refine EndsE.st (b := (226, _, _, _, 2, 6)) (s_iadd at_225) ?_
  refine EndsE.st (b := (228, [_, _, _, _, _, _, _, _, _, _, _, _, _, _, _, _, _, _, _, _], _, _, 2, 6)) (s_istore at_226 rfl) ?_
  refine EndsE.st (b := (230, _, _, _, 2, 6)) (s_aload at_228 rfl rfl) ?_
  refine EndsE.st (b := (232, _, _, _, 2, 6)) (s_iload at_230 rfl) ?_
  refine EndsE.st (b := (235, _, [_], _, 2, 6)) (s_callV (W := 0) (cid := 0) (hw _ (List.mem_of_getElem? (i := 24) rfl)) (hw _ (List.mem_of_getElem? (i := 26) rfl)) (hw _ (List.mem_of_getElem? (i := 10) rfl)) (hw _ (List.mem_of_getElem? (i := 28) rfl)) (hw _ (List.mem_of_getElem? (i := 25) rfl)) (hw _ (List.mem_of_getElem? (i := 27) rfl)) (by decide) rfl (lenOf pd6 rfl) at_232 rfl (hM) rfl rfl (by decide) (by decide) (by decide) (by decide)) ?_
  refine EndsE.st (b := (237, [_, _, _, _, _, _, _, _, _, _, _, _, _, _, _, _, _, _, _, _], _, _, 2, 6)) (s_istore at_235 rfl) ?_
  refine EndsE.st (b := (239, _, _, _, 2, 6)) (s_iload at_237 rfl) ?_
  refine EndsE.st (b := (241, _, _, _, 2, 6)) (s_iload at_239 rfl) ?_
  refine EndsE.st (b := (244, _, _, _, 2, 6)) (s_icmp_ne_f at_241 hres) ?_
  refine EndsE.st (b := (245, _, _, _, 2, 6)) (s_iconst (z := 1) at_244 rfl) ?_
  refine EndsE.st (b := (249, _, _, _, 2, 6)) (s_goto at_245 (by decide) (by decide)) ?_
  exact ⟨_, e_nreturn at_249 rfl (by simp) rfl (by decide) (by decide)⟩
theorem tl2 {l : Launch} {Z : State} {a0 : Array Value} (hw : ∀ d ∈ tables_1, d.before a0 Z = true) {ρ : oM} (nr a b d e bd x0 x1 x2 x3 y0 y2 y1 y3 s1 s2 : Int32) (h1 : y0.toInt ≤ s1.toInt) (h2 : s1.toInt ≤ s2.toInt) (h3 : s2.toInt ≤ y3.toInt) : EndsE l Z CK ρ "com/example/ontology_to_datalog/ontologytodatalog/datalog/IntListFirstAtLeastPinLaw" "law" code maxLocals room_1 ret (101, [.val (.int nr), .val (.int a), .val (.int b), .val (.int d), .val (.int e), .val (.int bd), .val (.int 2), .val (.int x0), .val (.int x1), .val (.int x2), .val (.int x3), .val (.int y0), .val (.int y2), .val (.int y1), .val (.int y3), .val (.int s1), .val (.int s2), .val (.ref 0), .unset, .unset], [], [.inl (0, [.ref 1, .int 0]), .inr (.int, [.int 0, .int 0, .int 0, .int 0])], 2, 6) (some (.int 1)) := by
  obtain ⟨k, hk, hM⟩ := m6 (l := l) (ρ := ρ) hw (n := 2) (vs := [.int y0, .int s1, .int 0, .int 0]) (el := fun i => if i = 0 then y0 else if i = 1 then s1 else if i = 2 then s2 else y3) bd (by decide) (fun i hi => by match i, hi with
      | 0, _ => rfl
      | 1, _ => rfl) (fun i j q1 q2 => by
      have hij : (i = 0 ∧ j = 0) ∨ (i = 0 ∧ j = 1) ∨ (i = 1 ∧ j = 1) := by omega
      rcases hij with ⟨rfl, rfl⟩ | ⟨rfl, rfl⟩ | ⟨rfl, rfl⟩ <;> first | exact Int.le_refl _ | exact h1 | exact h2 | exact h3 | exact Int.le_trans h1 h2 | exact Int.le_trans h2 h3 | exact Int.le_trans h1 (Int.le_trans h2 h3))
  have hres : Int32.ofNat k = below 1 y0 bd + below 1 s1 bd + below 0 s2 bd + below 0 y3 bd := by
    obtain ⟨g1, g2, g3⟩ := hk
    match k, g1 with
    | 0, _ =>
      have p0 : ¬ y0 < bd := g3 0 (by omega) (by omega)
      have p1 : ¬ s1 < bd := g3 1 (by omega) (by omega)
      rw [show below 1 y0 bd = 0 from (if_neg (by decide)).trans (if_neg p0), show below 1 s1 bd = 0 from (if_neg (by decide)).trans (if_neg p1), show below 0 s2 bd = 0 from rfl, show below 0 y3 bd = 0 from rfl]; rfl
    | 1, _ =>
      have p0 : y0 < bd := g2 0 (by omega)
      have p1 : ¬ s1 < bd := g3 1 (by omega) (by omega)
      rw [show below 1 y0 bd = 1 from (if_neg (by decide)).trans (if_pos p0), show below 1 s1 bd = 0 from (if_neg (by decide)).trans (if_neg p1), show below 0 s2 bd = 0 from rfl, show below 0 y3 bd = 0 from rfl]; rfl
    | 2, _ =>
      have p0 : y0 < bd := g2 0 (by omega)
      have p1 : s1 < bd := g2 1 (by omega)
      rw [show below 1 y0 bd = 1 from (if_neg (by decide)).trans (if_pos p0), show below 1 s1 bd = 1 from (if_neg (by decide)).trans (if_pos p1), show below 0 s2 bd = 0 from rfl, show below 0 y3 bd = 0 from rfl]; rfl
  refine EndsE.st (b := (103, _, _, _, 2, 6)) (s_iload at_101 rfl) ?_
  refine EndsE.st (b := (106, _, _, _, 2, 6)) (s_if_le_f at_103 (by decide)) ?_
  refine EndsE.st (b := (108, _, _, _, 2, 6)) (s_aload at_106 rfl rfl) ?_
  refine EndsE.st (b := (110, _, _, _, 2, 6)) (s_iload at_108 rfl) ?_
  refine EndsE.st (b := (113, _, [], [.inl (_, [_, _]), .inr (_, [_, _, _, _])], 2, 6)) (s_callV (W := 0) (cid := 0) (hw _ (List.mem_of_getElem? (i := 31) rfl)) (hw _ (List.mem_of_getElem? (i := 33) rfl)) (hw _ (List.mem_of_getElem? (i := 10) rfl)) (hw _ (List.mem_of_getElem? (i := 35) rfl)) (hw _ (List.mem_of_getElem? (i := 32) rfl)) (hw _ (List.mem_of_getElem? (i := 34) rfl)) (by decide) rfl (lenOf pd7 rfl) at_110 rfl (m7 hw 0 1 _ 0 (by decide) rfl rfl (by decide) (by decide) rfl) rfl rfl (by decide) (by decide) (by decide) (by decide)) ?_
  refine EndsE.st (b := (115, _, _, _, 2, 6)) (s_iload at_113 rfl) ?_
  refine EndsE.st (b := (116, _, _, _, 2, 6)) (s_iconst (z := 1) at_115 rfl) ?_
  refine EndsE.st (b := (119, _, _, _, 2, 6)) (s_icmp_le_f at_116 (by decide)) ?_
  refine EndsE.st (b := (121, _, _, _, 2, 6)) (s_aload at_119 rfl rfl) ?_
  refine EndsE.st (b := (123, _, _, _, 2, 6)) (s_iload at_121 rfl) ?_
  refine EndsE.st (b := (126, _, [], [.inl (_, [_, _]), .inr (_, [_, _, _, _])], 2, 6)) (s_callV (W := 0) (cid := 0) (hw _ (List.mem_of_getElem? (i := 31) rfl)) (hw _ (List.mem_of_getElem? (i := 33) rfl)) (hw _ (List.mem_of_getElem? (i := 10) rfl)) (hw _ (List.mem_of_getElem? (i := 35) rfl)) (hw _ (List.mem_of_getElem? (i := 32) rfl)) (hw _ (List.mem_of_getElem? (i := 34) rfl)) (by decide) rfl (lenOf pd7 rfl) at_123 rfl (m7 hw 1 2 _ 1 (by decide) rfl rfl (by decide) (by decide) rfl) rfl rfl (by decide) (by decide) (by decide) (by decide)) ?_
  refine EndsE.st (b := (128, _, _, _, 2, 6)) (s_iload at_126 rfl) ?_
  refine EndsE.st (b := (129, _, _, _, 2, 6)) (s_iconst (z := 2) at_128 rfl) ?_
  refine EndsE.st (b := (139, _, _, _, 2, 6)) (s_icmp_le_t at_129 (by decide) (by decide) (by decide)) ?_
  refine EndsE.st (b := (141, _, _, _, 2, 6)) (s_iload at_139 rfl) ?_
  refine EndsE.st (b := (142, _, _, _, 2, 6)) (s_iconst (z := 3) at_141 rfl) ?_
  refine EndsE.st (b := (152, _, _, _, 2, 6)) (s_icmp_le_t at_142 (by decide) (by decide) (by decide)) ?_
  refine EndsE.st (b := (154, _, _, _, 2, 6)) (s_iload at_152 rfl) ?_
  refine EndsE.st (b := (157, _, _, _, 2, 6)) (s_if_le_f at_154 (by decide)) ?_
  refine EndsE.st (b := (158, _, _, _, 2, 6)) (s_iconst (z := 1) at_157 rfl) ?_
  refine EndsE.st (b := (162, _, _, _, 2, 6)) (s_goto at_158 (by decide) (by decide)) ?_
  refine EndsE.st (b := (164, _, _, _, 2, 6)) (s_iload at_162 rfl) ?_
  refine EndsE.st (b := (166, _, _, _, 2, 6)) (s_iload at_164 rfl) ?_
  refine EndsE.st (b := (169, _, [_], _, 2, 6)) (s_callS (W := 0) (hw _ (List.mem_of_getElem? (i := 20) rfl)) (hw _ (List.mem_of_getElem? (i := 21) rfl)) (hw _ (List.mem_of_getElem? (i := 22) rfl)) (hw _ (List.mem_of_getElem? (i := 23) rfl)) (by decide) (lenOf pd5 rfl) at_166 (m5 hw _ _ _) rfl rfl (by decide) (by decide) (by decide) (by decide)) ?_
  refine EndsE.st (b := (171, _, _, _, 2, 6)) (s_iload at_169 rfl) ?_
  refine EndsE.st (b := (172, _, _, _, 2, 6)) (s_iconst (z := 1) at_171 rfl) ?_
  refine EndsE.st (b := (175, _, _, _, 2, 6)) (s_icmp_le_f at_172 (by decide)) ?_
  refine EndsE.st (b := (176, _, _, _, 2, 6)) (s_iconst (z := 1) at_175 rfl) ?_
  refine EndsE.st (b := (180, _, _, _, 2, 6)) (s_goto at_176 (by decide) (by decide)) ?_
  refine EndsE.st (b := (182, _, _, _, 2, 6)) (s_iload at_180 rfl) ?_
  refine EndsE.st (b := (184, _, _, _, 2, 6)) (s_iload at_182 rfl) ?_
  refine EndsE.st (b := (187, _, [_, _], _, 2, 6)) (s_callS (W := 1) (hw _ (List.mem_of_getElem? (i := 20) rfl)) (hw _ (List.mem_of_getElem? (i := 21) rfl)) (hw _ (List.mem_of_getElem? (i := 22) rfl)) (hw _ (List.mem_of_getElem? (i := 23) rfl)) (by decide) (lenOf pd5 rfl) at_184 (m5 hw _ _ _) rfl rfl (by decide) (by decide) (by decide) (by decide)) ?_
  refine EndsE.st (b := (188, _, _, _, 2, 6)) (s_iadd at_187) ?_
  refine EndsE.st (b := (190, _, _, _, 2, 6)) (s_iload at_188 rfl) ?_
  refine EndsE.st (b := (191, _, _, _, 2, 6)) (s_iconst (z := 2) at_190 rfl) ?_
  refine EndsE.st (b := (198, _, _, _, 2, 6)) (s_icmp_le_t at_191 (by decide) (by decide) (by decide)) ?_
  refine EndsE.st (b := (199, _, _, _, 2, 6)) (s_iconst (z := 0) at_198 rfl) ?_
  refine EndsE.st (b := (201, _, _, _, 2, 6)) (s_iload at_199 rfl) ?_
  refine EndsE.st (b := (203, _, _, _, 2, 6)) (s_iload at_201 rfl) ?_
  refine EndsE.st (b := (206, _, [_, _], _, 2, 6)) (s_callS (W := 1) (hw _ (List.mem_of_getElem? (i := 20) rfl)) (hw _ (List.mem_of_getElem? (i := 21) rfl)) (hw _ (List.mem_of_getElem? (i := 22) rfl)) (hw _ (List.mem_of_getElem? (i := 23) rfl)) (by decide) (lenOf pd5 rfl) at_203 (m5 hw _ _ _) rfl rfl (by decide) (by decide) (by decide) (by decide)) ?_
  refine EndsE.st (b := (207, _, _, _, 2, 6)) (s_iadd at_206) ?_
  refine EndsE.st (b := (209, _, _, _, 2, 6)) (s_iload at_207 rfl) ?_
  refine EndsE.st (b := (210, _, _, _, 2, 6)) (s_iconst (z := 3) at_209 rfl) ?_
  refine EndsE.st (b := (217, _, _, _, 2, 6)) (s_icmp_le_t at_210 (by decide) (by decide) (by decide)) ?_
  refine EndsE.st (b := (218, _, _, _, 2, 6)) (s_iconst (z := 0) at_217 rfl) ?_
  refine EndsE.st (b := (220, _, _, _, 2, 6)) (s_iload at_218 rfl) ?_
  refine EndsE.st (b := (222, _, _, _, 2, 6)) (s_iload at_220 rfl) ?_
  refine EndsE.st (b := (225, _, [_, _], _, 2, 6)) (s_callS (W := 1) (hw _ (List.mem_of_getElem? (i := 20) rfl)) (hw _ (List.mem_of_getElem? (i := 21) rfl)) (hw _ (List.mem_of_getElem? (i := 22) rfl)) (hw _ (List.mem_of_getElem? (i := 23) rfl)) (by decide) (lenOf pd5 rfl) at_222 (m5 hw _ _ _) rfl rfl (by decide) (by decide) (by decide) (by decide)) ?_
  refine EndsE.st (b := (226, _, _, _, 2, 6)) (s_iadd at_225) ?_
  refine EndsE.st (b := (228, [_, _, _, _, _, _, _, _, _, _, _, _, _, _, _, _, _, _, _, _], _, _, 2, 6)) (s_istore at_226 rfl) ?_
  refine EndsE.st (b := (230, _, _, _, 2, 6)) (s_aload at_228 rfl rfl) ?_
  refine EndsE.st (b := (232, _, _, _, 2, 6)) (s_iload at_230 rfl) ?_
  refine EndsE.st (b := (235, _, [_], _, 2, 6)) (s_callV (W := 0) (cid := 0) (hw _ (List.mem_of_getElem? (i := 24) rfl)) (hw _ (List.mem_of_getElem? (i := 26) rfl)) (hw _ (List.mem_of_getElem? (i := 10) rfl)) (hw _ (List.mem_of_getElem? (i := 28) rfl)) (hw _ (List.mem_of_getElem? (i := 25) rfl)) (hw _ (List.mem_of_getElem? (i := 27) rfl)) (by decide) rfl (lenOf pd6 rfl) at_232 rfl (hM) rfl rfl (by decide) (by decide) (by decide) (by decide)) ?_
  refine EndsE.st (b := (237, [_, _, _, _, _, _, _, _, _, _, _, _, _, _, _, _, _, _, _, _], _, _, 2, 6)) (s_istore at_235 rfl) ?_
  refine EndsE.st (b := (239, _, _, _, 2, 6)) (s_iload at_237 rfl) ?_
  refine EndsE.st (b := (241, _, _, _, 2, 6)) (s_iload at_239 rfl) ?_
  refine EndsE.st (b := (244, _, _, _, 2, 6)) (s_icmp_ne_f at_241 hres) ?_
  refine EndsE.st (b := (245, _, _, _, 2, 6)) (s_iconst (z := 1) at_244 rfl) ?_
  refine EndsE.st (b := (249, _, _, _, 2, 6)) (s_goto at_245 (by decide) (by decide)) ?_
  exact ⟨_, e_nreturn at_249 rfl (by simp) rfl (by decide) (by decide)⟩
theorem tl3 {l : Launch} {Z : State} {a0 : Array Value} (hw : ∀ d ∈ tables_1, d.before a0 Z = true) {ρ : oM} (nr a b d e bd x0 x1 x2 x3 y0 y2 y1 y3 s1 s2 : Int32) (h1 : y0.toInt ≤ s1.toInt) (h2 : s1.toInt ≤ s2.toInt) (h3 : s2.toInt ≤ y3.toInt) : EndsE l Z CK ρ "com/example/ontology_to_datalog/ontologytodatalog/datalog/IntListFirstAtLeastPinLaw" "law" code maxLocals room_1 ret (101, [.val (.int nr), .val (.int a), .val (.int b), .val (.int d), .val (.int e), .val (.int bd), .val (.int 3), .val (.int x0), .val (.int x1), .val (.int x2), .val (.int x3), .val (.int y0), .val (.int y2), .val (.int y1), .val (.int y3), .val (.int s1), .val (.int s2), .val (.ref 0), .unset, .unset], [], [.inl (0, [.ref 1, .int 0]), .inr (.int, [.int 0, .int 0, .int 0, .int 0])], 2, 6) (some (.int 1)) := by
  obtain ⟨k, hk, hM⟩ := m6 (l := l) (ρ := ρ) hw (n := 3) (vs := [.int y0, .int s1, .int s2, .int 0]) (el := fun i => if i = 0 then y0 else if i = 1 then s1 else if i = 2 then s2 else y3) bd (by decide) (fun i hi => by match i, hi with
      | 0, _ => rfl
      | 1, _ => rfl
      | 2, _ => rfl) (fun i j q1 q2 => by
      have hij : (i = 0 ∧ j = 0) ∨ (i = 0 ∧ j = 1) ∨ (i = 1 ∧ j = 1) ∨ (i = 0 ∧ j = 2) ∨ (i = 1 ∧ j = 2) ∨ (i = 2 ∧ j = 2) := by omega
      rcases hij with ⟨rfl, rfl⟩ | ⟨rfl, rfl⟩ | ⟨rfl, rfl⟩ | ⟨rfl, rfl⟩ | ⟨rfl, rfl⟩ | ⟨rfl, rfl⟩ <;> first | exact Int.le_refl _ | exact h1 | exact h2 | exact h3 | exact Int.le_trans h1 h2 | exact Int.le_trans h2 h3 | exact Int.le_trans h1 (Int.le_trans h2 h3))
  have hres : Int32.ofNat k = below 1 y0 bd + below 1 s1 bd + below 1 s2 bd + below 0 y3 bd := by
    obtain ⟨g1, g2, g3⟩ := hk
    match k, g1 with
    | 0, _ =>
      have p0 : ¬ y0 < bd := g3 0 (by omega) (by omega)
      have p1 : ¬ s1 < bd := g3 1 (by omega) (by omega)
      have p2 : ¬ s2 < bd := g3 2 (by omega) (by omega)
      rw [show below 1 y0 bd = 0 from (if_neg (by decide)).trans (if_neg p0), show below 1 s1 bd = 0 from (if_neg (by decide)).trans (if_neg p1), show below 1 s2 bd = 0 from (if_neg (by decide)).trans (if_neg p2), show below 0 y3 bd = 0 from rfl]; rfl
    | 1, _ =>
      have p0 : y0 < bd := g2 0 (by omega)
      have p1 : ¬ s1 < bd := g3 1 (by omega) (by omega)
      have p2 : ¬ s2 < bd := g3 2 (by omega) (by omega)
      rw [show below 1 y0 bd = 1 from (if_neg (by decide)).trans (if_pos p0), show below 1 s1 bd = 0 from (if_neg (by decide)).trans (if_neg p1), show below 1 s2 bd = 0 from (if_neg (by decide)).trans (if_neg p2), show below 0 y3 bd = 0 from rfl]; rfl
    | 2, _ =>
      have p0 : y0 < bd := g2 0 (by omega)
      have p1 : s1 < bd := g2 1 (by omega)
      have p2 : ¬ s2 < bd := g3 2 (by omega) (by omega)
      rw [show below 1 y0 bd = 1 from (if_neg (by decide)).trans (if_pos p0), show below 1 s1 bd = 1 from (if_neg (by decide)).trans (if_pos p1), show below 1 s2 bd = 0 from (if_neg (by decide)).trans (if_neg p2), show below 0 y3 bd = 0 from rfl]; rfl
    | 3, _ =>
      have p0 : y0 < bd := g2 0 (by omega)
      have p1 : s1 < bd := g2 1 (by omega)
      have p2 : s2 < bd := g2 2 (by omega)
      rw [show below 1 y0 bd = 1 from (if_neg (by decide)).trans (if_pos p0), show below 1 s1 bd = 1 from (if_neg (by decide)).trans (if_pos p1), show below 1 s2 bd = 1 from (if_neg (by decide)).trans (if_pos p2), show below 0 y3 bd = 0 from rfl]; rfl
  refine EndsE.st (b := (103, _, _, _, 2, 6)) (s_iload at_101 rfl) ?_
  refine EndsE.st (b := (106, _, _, _, 2, 6)) (s_if_le_f at_103 (by decide)) ?_
  refine EndsE.st (b := (108, _, _, _, 2, 6)) (s_aload at_106 rfl rfl) ?_
  refine EndsE.st (b := (110, _, _, _, 2, 6)) (s_iload at_108 rfl) ?_
  refine EndsE.st (b := (113, _, [], [.inl (_, [_, _]), .inr (_, [_, _, _, _])], 2, 6)) (s_callV (W := 0) (cid := 0) (hw _ (List.mem_of_getElem? (i := 31) rfl)) (hw _ (List.mem_of_getElem? (i := 33) rfl)) (hw _ (List.mem_of_getElem? (i := 10) rfl)) (hw _ (List.mem_of_getElem? (i := 35) rfl)) (hw _ (List.mem_of_getElem? (i := 32) rfl)) (hw _ (List.mem_of_getElem? (i := 34) rfl)) (by decide) rfl (lenOf pd7 rfl) at_110 rfl (m7 hw 0 1 _ 0 (by decide) rfl rfl (by decide) (by decide) rfl) rfl rfl (by decide) (by decide) (by decide) (by decide)) ?_
  refine EndsE.st (b := (115, _, _, _, 2, 6)) (s_iload at_113 rfl) ?_
  refine EndsE.st (b := (116, _, _, _, 2, 6)) (s_iconst (z := 1) at_115 rfl) ?_
  refine EndsE.st (b := (119, _, _, _, 2, 6)) (s_icmp_le_f at_116 (by decide)) ?_
  refine EndsE.st (b := (121, _, _, _, 2, 6)) (s_aload at_119 rfl rfl) ?_
  refine EndsE.st (b := (123, _, _, _, 2, 6)) (s_iload at_121 rfl) ?_
  refine EndsE.st (b := (126, _, [], [.inl (_, [_, _]), .inr (_, [_, _, _, _])], 2, 6)) (s_callV (W := 0) (cid := 0) (hw _ (List.mem_of_getElem? (i := 31) rfl)) (hw _ (List.mem_of_getElem? (i := 33) rfl)) (hw _ (List.mem_of_getElem? (i := 10) rfl)) (hw _ (List.mem_of_getElem? (i := 35) rfl)) (hw _ (List.mem_of_getElem? (i := 32) rfl)) (hw _ (List.mem_of_getElem? (i := 34) rfl)) (by decide) rfl (lenOf pd7 rfl) at_123 rfl (m7 hw 1 2 _ 1 (by decide) rfl rfl (by decide) (by decide) rfl) rfl rfl (by decide) (by decide) (by decide) (by decide)) ?_
  refine EndsE.st (b := (128, _, _, _, 2, 6)) (s_iload at_126 rfl) ?_
  refine EndsE.st (b := (129, _, _, _, 2, 6)) (s_iconst (z := 2) at_128 rfl) ?_
  refine EndsE.st (b := (132, _, _, _, 2, 6)) (s_icmp_le_f at_129 (by decide)) ?_
  refine EndsE.st (b := (134, _, _, _, 2, 6)) (s_aload at_132 rfl rfl) ?_
  refine EndsE.st (b := (136, _, _, _, 2, 6)) (s_iload at_134 rfl) ?_
  refine EndsE.st (b := (139, _, [], [.inl (_, [_, _]), .inr (_, [_, _, _, _])], 2, 6)) (s_callV (W := 0) (cid := 0) (hw _ (List.mem_of_getElem? (i := 31) rfl)) (hw _ (List.mem_of_getElem? (i := 33) rfl)) (hw _ (List.mem_of_getElem? (i := 10) rfl)) (hw _ (List.mem_of_getElem? (i := 35) rfl)) (hw _ (List.mem_of_getElem? (i := 32) rfl)) (hw _ (List.mem_of_getElem? (i := 34) rfl)) (by decide) rfl (lenOf pd7 rfl) at_136 rfl (m7 hw 2 3 _ 2 (by decide) rfl rfl (by decide) (by decide) rfl) rfl rfl (by decide) (by decide) (by decide) (by decide)) ?_
  refine EndsE.st (b := (141, _, _, _, 2, 6)) (s_iload at_139 rfl) ?_
  refine EndsE.st (b := (142, _, _, _, 2, 6)) (s_iconst (z := 3) at_141 rfl) ?_
  refine EndsE.st (b := (152, _, _, _, 2, 6)) (s_icmp_le_t at_142 (by decide) (by decide) (by decide)) ?_
  refine EndsE.st (b := (154, _, _, _, 2, 6)) (s_iload at_152 rfl) ?_
  refine EndsE.st (b := (157, _, _, _, 2, 6)) (s_if_le_f at_154 (by decide)) ?_
  refine EndsE.st (b := (158, _, _, _, 2, 6)) (s_iconst (z := 1) at_157 rfl) ?_
  refine EndsE.st (b := (162, _, _, _, 2, 6)) (s_goto at_158 (by decide) (by decide)) ?_
  refine EndsE.st (b := (164, _, _, _, 2, 6)) (s_iload at_162 rfl) ?_
  refine EndsE.st (b := (166, _, _, _, 2, 6)) (s_iload at_164 rfl) ?_
  refine EndsE.st (b := (169, _, [_], _, 2, 6)) (s_callS (W := 0) (hw _ (List.mem_of_getElem? (i := 20) rfl)) (hw _ (List.mem_of_getElem? (i := 21) rfl)) (hw _ (List.mem_of_getElem? (i := 22) rfl)) (hw _ (List.mem_of_getElem? (i := 23) rfl)) (by decide) (lenOf pd5 rfl) at_166 (m5 hw _ _ _) rfl rfl (by decide) (by decide) (by decide) (by decide)) ?_
  refine EndsE.st (b := (171, _, _, _, 2, 6)) (s_iload at_169 rfl) ?_
  refine EndsE.st (b := (172, _, _, _, 2, 6)) (s_iconst (z := 1) at_171 rfl) ?_
  refine EndsE.st (b := (175, _, _, _, 2, 6)) (s_icmp_le_f at_172 (by decide)) ?_
  refine EndsE.st (b := (176, _, _, _, 2, 6)) (s_iconst (z := 1) at_175 rfl) ?_
  refine EndsE.st (b := (180, _, _, _, 2, 6)) (s_goto at_176 (by decide) (by decide)) ?_
  refine EndsE.st (b := (182, _, _, _, 2, 6)) (s_iload at_180 rfl) ?_
  refine EndsE.st (b := (184, _, _, _, 2, 6)) (s_iload at_182 rfl) ?_
  refine EndsE.st (b := (187, _, [_, _], _, 2, 6)) (s_callS (W := 1) (hw _ (List.mem_of_getElem? (i := 20) rfl)) (hw _ (List.mem_of_getElem? (i := 21) rfl)) (hw _ (List.mem_of_getElem? (i := 22) rfl)) (hw _ (List.mem_of_getElem? (i := 23) rfl)) (by decide) (lenOf pd5 rfl) at_184 (m5 hw _ _ _) rfl rfl (by decide) (by decide) (by decide) (by decide)) ?_
  refine EndsE.st (b := (188, _, _, _, 2, 6)) (s_iadd at_187) ?_
  refine EndsE.st (b := (190, _, _, _, 2, 6)) (s_iload at_188 rfl) ?_
  refine EndsE.st (b := (191, _, _, _, 2, 6)) (s_iconst (z := 2) at_190 rfl) ?_
  refine EndsE.st (b := (194, _, _, _, 2, 6)) (s_icmp_le_f at_191 (by decide)) ?_
  refine EndsE.st (b := (195, _, _, _, 2, 6)) (s_iconst (z := 1) at_194 rfl) ?_
  refine EndsE.st (b := (199, _, _, _, 2, 6)) (s_goto at_195 (by decide) (by decide)) ?_
  refine EndsE.st (b := (201, _, _, _, 2, 6)) (s_iload at_199 rfl) ?_
  refine EndsE.st (b := (203, _, _, _, 2, 6)) (s_iload at_201 rfl) ?_
  refine EndsE.st (b := (206, _, [_, _], _, 2, 6)) (s_callS (W := 1) (hw _ (List.mem_of_getElem? (i := 20) rfl)) (hw _ (List.mem_of_getElem? (i := 21) rfl)) (hw _ (List.mem_of_getElem? (i := 22) rfl)) (hw _ (List.mem_of_getElem? (i := 23) rfl)) (by decide) (lenOf pd5 rfl) at_203 (m5 hw _ _ _) rfl rfl (by decide) (by decide) (by decide) (by decide)) ?_
  refine EndsE.st (b := (207, _, _, _, 2, 6)) (s_iadd at_206) ?_
  refine EndsE.st (b := (209, _, _, _, 2, 6)) (s_iload at_207 rfl) ?_
  refine EndsE.st (b := (210, _, _, _, 2, 6)) (s_iconst (z := 3) at_209 rfl) ?_
  refine EndsE.st (b := (217, _, _, _, 2, 6)) (s_icmp_le_t at_210 (by decide) (by decide) (by decide)) ?_
  refine EndsE.st (b := (218, _, _, _, 2, 6)) (s_iconst (z := 0) at_217 rfl) ?_
  refine EndsE.st (b := (220, _, _, _, 2, 6)) (s_iload at_218 rfl) ?_
  refine EndsE.st (b := (222, _, _, _, 2, 6)) (s_iload at_220 rfl) ?_
  refine EndsE.st (b := (225, _, [_, _], _, 2, 6)) (s_callS (W := 1) (hw _ (List.mem_of_getElem? (i := 20) rfl)) (hw _ (List.mem_of_getElem? (i := 21) rfl)) (hw _ (List.mem_of_getElem? (i := 22) rfl)) (hw _ (List.mem_of_getElem? (i := 23) rfl)) (by decide) (lenOf pd5 rfl) at_222 (m5 hw _ _ _) rfl rfl (by decide) (by decide) (by decide) (by decide)) ?_
  refine EndsE.st (b := (226, _, _, _, 2, 6)) (s_iadd at_225) ?_
  refine EndsE.st (b := (228, [_, _, _, _, _, _, _, _, _, _, _, _, _, _, _, _, _, _, _, _], _, _, 2, 6)) (s_istore at_226 rfl) ?_
  refine EndsE.st (b := (230, _, _, _, 2, 6)) (s_aload at_228 rfl rfl) ?_
  refine EndsE.st (b := (232, _, _, _, 2, 6)) (s_iload at_230 rfl) ?_
  refine EndsE.st (b := (235, _, [_], _, 2, 6)) (s_callV (W := 0) (cid := 0) (hw _ (List.mem_of_getElem? (i := 24) rfl)) (hw _ (List.mem_of_getElem? (i := 26) rfl)) (hw _ (List.mem_of_getElem? (i := 10) rfl)) (hw _ (List.mem_of_getElem? (i := 28) rfl)) (hw _ (List.mem_of_getElem? (i := 25) rfl)) (hw _ (List.mem_of_getElem? (i := 27) rfl)) (by decide) rfl (lenOf pd6 rfl) at_232 rfl (hM) rfl rfl (by decide) (by decide) (by decide) (by decide)) ?_
  refine EndsE.st (b := (237, [_, _, _, _, _, _, _, _, _, _, _, _, _, _, _, _, _, _, _, _], _, _, 2, 6)) (s_istore at_235 rfl) ?_
  refine EndsE.st (b := (239, _, _, _, 2, 6)) (s_iload at_237 rfl) ?_
  refine EndsE.st (b := (241, _, _, _, 2, 6)) (s_iload at_239 rfl) ?_
  refine EndsE.st (b := (244, _, _, _, 2, 6)) (s_icmp_ne_f at_241 hres) ?_
  refine EndsE.st (b := (245, _, _, _, 2, 6)) (s_iconst (z := 1) at_244 rfl) ?_
  refine EndsE.st (b := (249, _, _, _, 2, 6)) (s_goto at_245 (by decide) (by decide)) ?_
  exact ⟨_, e_nreturn at_249 rfl (by simp) rfl (by decide) (by decide)⟩
theorem tl4 {l : Launch} {Z : State} {a0 : Array Value} (hw : ∀ d ∈ tables_1, d.before a0 Z = true) {ρ : oM} (nr a b d e bd x0 x1 x2 x3 y0 y2 y1 y3 s1 s2 : Int32) (h1 : y0.toInt ≤ s1.toInt) (h2 : s1.toInt ≤ s2.toInt) (h3 : s2.toInt ≤ y3.toInt) : EndsE l Z CK ρ "com/example/ontology_to_datalog/ontologytodatalog/datalog/IntListFirstAtLeastPinLaw" "law" code maxLocals room_1 ret (101, [.val (.int nr), .val (.int a), .val (.int b), .val (.int d), .val (.int e), .val (.int bd), .val (.int 4), .val (.int x0), .val (.int x1), .val (.int x2), .val (.int x3), .val (.int y0), .val (.int y2), .val (.int y1), .val (.int y3), .val (.int s1), .val (.int s2), .val (.ref 0), .unset, .unset], [], [.inl (0, [.ref 1, .int 0]), .inr (.int, [.int 0, .int 0, .int 0, .int 0])], 2, 6) (some (.int 1)) := by
  obtain ⟨k, hk, hM⟩ := m6 (l := l) (ρ := ρ) hw (n := 4) (vs := [.int y0, .int s1, .int s2, .int y3]) (el := fun i => if i = 0 then y0 else if i = 1 then s1 else if i = 2 then s2 else y3) bd (by decide) (fun i hi => by match i, hi with
      | 0, _ => rfl
      | 1, _ => rfl
      | 2, _ => rfl
      | 3, _ => rfl) (fun i j q1 q2 => by
      have hij : (i = 0 ∧ j = 0) ∨ (i = 0 ∧ j = 1) ∨ (i = 1 ∧ j = 1) ∨ (i = 0 ∧ j = 2) ∨ (i = 1 ∧ j = 2) ∨ (i = 2 ∧ j = 2) ∨ (i = 0 ∧ j = 3) ∨ (i = 1 ∧ j = 3) ∨ (i = 2 ∧ j = 3) ∨ (i = 3 ∧ j = 3) := by omega
      rcases hij with ⟨rfl, rfl⟩ | ⟨rfl, rfl⟩ | ⟨rfl, rfl⟩ | ⟨rfl, rfl⟩ | ⟨rfl, rfl⟩ | ⟨rfl, rfl⟩ | ⟨rfl, rfl⟩ | ⟨rfl, rfl⟩ | ⟨rfl, rfl⟩ | ⟨rfl, rfl⟩ <;> first | exact Int.le_refl _ | exact h1 | exact h2 | exact h3 | exact Int.le_trans h1 h2 | exact Int.le_trans h2 h3 | exact Int.le_trans h1 (Int.le_trans h2 h3))
  have hres : Int32.ofNat k = below 1 y0 bd + below 1 s1 bd + below 1 s2 bd + below 1 y3 bd := by
    obtain ⟨g1, g2, g3⟩ := hk
    match k, g1 with
    | 0, _ =>
      have p0 : ¬ y0 < bd := g3 0 (by omega) (by omega)
      have p1 : ¬ s1 < bd := g3 1 (by omega) (by omega)
      have p2 : ¬ s2 < bd := g3 2 (by omega) (by omega)
      have p3 : ¬ y3 < bd := g3 3 (by omega) (by omega)
      rw [show below 1 y0 bd = 0 from (if_neg (by decide)).trans (if_neg p0), show below 1 s1 bd = 0 from (if_neg (by decide)).trans (if_neg p1), show below 1 s2 bd = 0 from (if_neg (by decide)).trans (if_neg p2), show below 1 y3 bd = 0 from (if_neg (by decide)).trans (if_neg p3)]; rfl
    | 1, _ =>
      have p0 : y0 < bd := g2 0 (by omega)
      have p1 : ¬ s1 < bd := g3 1 (by omega) (by omega)
      have p2 : ¬ s2 < bd := g3 2 (by omega) (by omega)
      have p3 : ¬ y3 < bd := g3 3 (by omega) (by omega)
      rw [show below 1 y0 bd = 1 from (if_neg (by decide)).trans (if_pos p0), show below 1 s1 bd = 0 from (if_neg (by decide)).trans (if_neg p1), show below 1 s2 bd = 0 from (if_neg (by decide)).trans (if_neg p2), show below 1 y3 bd = 0 from (if_neg (by decide)).trans (if_neg p3)]; rfl
    | 2, _ =>
      have p0 : y0 < bd := g2 0 (by omega)
      have p1 : s1 < bd := g2 1 (by omega)
      have p2 : ¬ s2 < bd := g3 2 (by omega) (by omega)
      have p3 : ¬ y3 < bd := g3 3 (by omega) (by omega)
      rw [show below 1 y0 bd = 1 from (if_neg (by decide)).trans (if_pos p0), show below 1 s1 bd = 1 from (if_neg (by decide)).trans (if_pos p1), show below 1 s2 bd = 0 from (if_neg (by decide)).trans (if_neg p2), show below 1 y3 bd = 0 from (if_neg (by decide)).trans (if_neg p3)]; rfl
    | 3, _ =>
      have p0 : y0 < bd := g2 0 (by omega)
      have p1 : s1 < bd := g2 1 (by omega)
      have p2 : s2 < bd := g2 2 (by omega)
      have p3 : ¬ y3 < bd := g3 3 (by omega) (by omega)
      rw [show below 1 y0 bd = 1 from (if_neg (by decide)).trans (if_pos p0), show below 1 s1 bd = 1 from (if_neg (by decide)).trans (if_pos p1), show below 1 s2 bd = 1 from (if_neg (by decide)).trans (if_pos p2), show below 1 y3 bd = 0 from (if_neg (by decide)).trans (if_neg p3)]; rfl
    | 4, _ =>
      have p0 : y0 < bd := g2 0 (by omega)
      have p1 : s1 < bd := g2 1 (by omega)
      have p2 : s2 < bd := g2 2 (by omega)
      have p3 : y3 < bd := g2 3 (by omega)
      rw [show below 1 y0 bd = 1 from (if_neg (by decide)).trans (if_pos p0), show below 1 s1 bd = 1 from (if_neg (by decide)).trans (if_pos p1), show below 1 s2 bd = 1 from (if_neg (by decide)).trans (if_pos p2), show below 1 y3 bd = 1 from (if_neg (by decide)).trans (if_pos p3)]; rfl
  refine EndsE.st (b := (103, _, _, _, 2, 6)) (s_iload at_101 rfl) ?_
  refine EndsE.st (b := (106, _, _, _, 2, 6)) (s_if_le_f at_103 (by decide)) ?_
  refine EndsE.st (b := (108, _, _, _, 2, 6)) (s_aload at_106 rfl rfl) ?_
  refine EndsE.st (b := (110, _, _, _, 2, 6)) (s_iload at_108 rfl) ?_
  refine EndsE.st (b := (113, _, [], [.inl (_, [_, _]), .inr (_, [_, _, _, _])], 2, 6)) (s_callV (W := 0) (cid := 0) (hw _ (List.mem_of_getElem? (i := 31) rfl)) (hw _ (List.mem_of_getElem? (i := 33) rfl)) (hw _ (List.mem_of_getElem? (i := 10) rfl)) (hw _ (List.mem_of_getElem? (i := 35) rfl)) (hw _ (List.mem_of_getElem? (i := 32) rfl)) (hw _ (List.mem_of_getElem? (i := 34) rfl)) (by decide) rfl (lenOf pd7 rfl) at_110 rfl (m7 hw 0 1 _ 0 (by decide) rfl rfl (by decide) (by decide) rfl) rfl rfl (by decide) (by decide) (by decide) (by decide)) ?_
  refine EndsE.st (b := (115, _, _, _, 2, 6)) (s_iload at_113 rfl) ?_
  refine EndsE.st (b := (116, _, _, _, 2, 6)) (s_iconst (z := 1) at_115 rfl) ?_
  refine EndsE.st (b := (119, _, _, _, 2, 6)) (s_icmp_le_f at_116 (by decide)) ?_
  refine EndsE.st (b := (121, _, _, _, 2, 6)) (s_aload at_119 rfl rfl) ?_
  refine EndsE.st (b := (123, _, _, _, 2, 6)) (s_iload at_121 rfl) ?_
  refine EndsE.st (b := (126, _, [], [.inl (_, [_, _]), .inr (_, [_, _, _, _])], 2, 6)) (s_callV (W := 0) (cid := 0) (hw _ (List.mem_of_getElem? (i := 31) rfl)) (hw _ (List.mem_of_getElem? (i := 33) rfl)) (hw _ (List.mem_of_getElem? (i := 10) rfl)) (hw _ (List.mem_of_getElem? (i := 35) rfl)) (hw _ (List.mem_of_getElem? (i := 32) rfl)) (hw _ (List.mem_of_getElem? (i := 34) rfl)) (by decide) rfl (lenOf pd7 rfl) at_123 rfl (m7 hw 1 2 _ 1 (by decide) rfl rfl (by decide) (by decide) rfl) rfl rfl (by decide) (by decide) (by decide) (by decide)) ?_
  refine EndsE.st (b := (128, _, _, _, 2, 6)) (s_iload at_126 rfl) ?_
  refine EndsE.st (b := (129, _, _, _, 2, 6)) (s_iconst (z := 2) at_128 rfl) ?_
  refine EndsE.st (b := (132, _, _, _, 2, 6)) (s_icmp_le_f at_129 (by decide)) ?_
  refine EndsE.st (b := (134, _, _, _, 2, 6)) (s_aload at_132 rfl rfl) ?_
  refine EndsE.st (b := (136, _, _, _, 2, 6)) (s_iload at_134 rfl) ?_
  refine EndsE.st (b := (139, _, [], [.inl (_, [_, _]), .inr (_, [_, _, _, _])], 2, 6)) (s_callV (W := 0) (cid := 0) (hw _ (List.mem_of_getElem? (i := 31) rfl)) (hw _ (List.mem_of_getElem? (i := 33) rfl)) (hw _ (List.mem_of_getElem? (i := 10) rfl)) (hw _ (List.mem_of_getElem? (i := 35) rfl)) (hw _ (List.mem_of_getElem? (i := 32) rfl)) (hw _ (List.mem_of_getElem? (i := 34) rfl)) (by decide) rfl (lenOf pd7 rfl) at_136 rfl (m7 hw 2 3 _ 2 (by decide) rfl rfl (by decide) (by decide) rfl) rfl rfl (by decide) (by decide) (by decide) (by decide)) ?_
  refine EndsE.st (b := (141, _, _, _, 2, 6)) (s_iload at_139 rfl) ?_
  refine EndsE.st (b := (142, _, _, _, 2, 6)) (s_iconst (z := 3) at_141 rfl) ?_
  refine EndsE.st (b := (145, _, _, _, 2, 6)) (s_icmp_le_f at_142 (by decide)) ?_
  refine EndsE.st (b := (147, _, _, _, 2, 6)) (s_aload at_145 rfl rfl) ?_
  refine EndsE.st (b := (149, _, _, _, 2, 6)) (s_iload at_147 rfl) ?_
  refine EndsE.st (b := (152, _, [], [.inl (_, [_, _]), .inr (_, [_, _, _, _])], 2, 6)) (s_callV (W := 0) (cid := 0) (hw _ (List.mem_of_getElem? (i := 31) rfl)) (hw _ (List.mem_of_getElem? (i := 33) rfl)) (hw _ (List.mem_of_getElem? (i := 10) rfl)) (hw _ (List.mem_of_getElem? (i := 35) rfl)) (hw _ (List.mem_of_getElem? (i := 32) rfl)) (hw _ (List.mem_of_getElem? (i := 34) rfl)) (by decide) rfl (lenOf pd7 rfl) at_149 rfl (m7 hw 3 4 _ 3 (by decide) rfl rfl (by decide) (by decide) rfl) rfl rfl (by decide) (by decide) (by decide) (by decide)) ?_
  refine EndsE.st (b := (154, _, _, _, 2, 6)) (s_iload at_152 rfl) ?_
  refine EndsE.st (b := (157, _, _, _, 2, 6)) (s_if_le_f at_154 (by decide)) ?_
  refine EndsE.st (b := (158, _, _, _, 2, 6)) (s_iconst (z := 1) at_157 rfl) ?_
  refine EndsE.st (b := (162, _, _, _, 2, 6)) (s_goto at_158 (by decide) (by decide)) ?_
  refine EndsE.st (b := (164, _, _, _, 2, 6)) (s_iload at_162 rfl) ?_
  refine EndsE.st (b := (166, _, _, _, 2, 6)) (s_iload at_164 rfl) ?_
  refine EndsE.st (b := (169, _, [_], _, 2, 6)) (s_callS (W := 0) (hw _ (List.mem_of_getElem? (i := 20) rfl)) (hw _ (List.mem_of_getElem? (i := 21) rfl)) (hw _ (List.mem_of_getElem? (i := 22) rfl)) (hw _ (List.mem_of_getElem? (i := 23) rfl)) (by decide) (lenOf pd5 rfl) at_166 (m5 hw _ _ _) rfl rfl (by decide) (by decide) (by decide) (by decide)) ?_
  refine EndsE.st (b := (171, _, _, _, 2, 6)) (s_iload at_169 rfl) ?_
  refine EndsE.st (b := (172, _, _, _, 2, 6)) (s_iconst (z := 1) at_171 rfl) ?_
  refine EndsE.st (b := (175, _, _, _, 2, 6)) (s_icmp_le_f at_172 (by decide)) ?_
  refine EndsE.st (b := (176, _, _, _, 2, 6)) (s_iconst (z := 1) at_175 rfl) ?_
  refine EndsE.st (b := (180, _, _, _, 2, 6)) (s_goto at_176 (by decide) (by decide)) ?_
  refine EndsE.st (b := (182, _, _, _, 2, 6)) (s_iload at_180 rfl) ?_
  refine EndsE.st (b := (184, _, _, _, 2, 6)) (s_iload at_182 rfl) ?_
  refine EndsE.st (b := (187, _, [_, _], _, 2, 6)) (s_callS (W := 1) (hw _ (List.mem_of_getElem? (i := 20) rfl)) (hw _ (List.mem_of_getElem? (i := 21) rfl)) (hw _ (List.mem_of_getElem? (i := 22) rfl)) (hw _ (List.mem_of_getElem? (i := 23) rfl)) (by decide) (lenOf pd5 rfl) at_184 (m5 hw _ _ _) rfl rfl (by decide) (by decide) (by decide) (by decide)) ?_
  refine EndsE.st (b := (188, _, _, _, 2, 6)) (s_iadd at_187) ?_
  refine EndsE.st (b := (190, _, _, _, 2, 6)) (s_iload at_188 rfl) ?_
  refine EndsE.st (b := (191, _, _, _, 2, 6)) (s_iconst (z := 2) at_190 rfl) ?_
  refine EndsE.st (b := (194, _, _, _, 2, 6)) (s_icmp_le_f at_191 (by decide)) ?_
  refine EndsE.st (b := (195, _, _, _, 2, 6)) (s_iconst (z := 1) at_194 rfl) ?_
  refine EndsE.st (b := (199, _, _, _, 2, 6)) (s_goto at_195 (by decide) (by decide)) ?_
  refine EndsE.st (b := (201, _, _, _, 2, 6)) (s_iload at_199 rfl) ?_
  refine EndsE.st (b := (203, _, _, _, 2, 6)) (s_iload at_201 rfl) ?_
  refine EndsE.st (b := (206, _, [_, _], _, 2, 6)) (s_callS (W := 1) (hw _ (List.mem_of_getElem? (i := 20) rfl)) (hw _ (List.mem_of_getElem? (i := 21) rfl)) (hw _ (List.mem_of_getElem? (i := 22) rfl)) (hw _ (List.mem_of_getElem? (i := 23) rfl)) (by decide) (lenOf pd5 rfl) at_203 (m5 hw _ _ _) rfl rfl (by decide) (by decide) (by decide) (by decide)) ?_
  refine EndsE.st (b := (207, _, _, _, 2, 6)) (s_iadd at_206) ?_
  refine EndsE.st (b := (209, _, _, _, 2, 6)) (s_iload at_207 rfl) ?_
  refine EndsE.st (b := (210, _, _, _, 2, 6)) (s_iconst (z := 3) at_209 rfl) ?_
  refine EndsE.st (b := (213, _, _, _, 2, 6)) (s_icmp_le_f at_210 (by decide)) ?_
  refine EndsE.st (b := (214, _, _, _, 2, 6)) (s_iconst (z := 1) at_213 rfl) ?_
  refine EndsE.st (b := (218, _, _, _, 2, 6)) (s_goto at_214 (by decide) (by decide)) ?_
  refine EndsE.st (b := (220, _, _, _, 2, 6)) (s_iload at_218 rfl) ?_
  refine EndsE.st (b := (222, _, _, _, 2, 6)) (s_iload at_220 rfl) ?_
  refine EndsE.st (b := (225, _, [_, _], _, 2, 6)) (s_callS (W := 1) (hw _ (List.mem_of_getElem? (i := 20) rfl)) (hw _ (List.mem_of_getElem? (i := 21) rfl)) (hw _ (List.mem_of_getElem? (i := 22) rfl)) (hw _ (List.mem_of_getElem? (i := 23) rfl)) (by decide) (lenOf pd5 rfl) at_222 (m5 hw _ _ _) rfl rfl (by decide) (by decide) (by decide) (by decide)) ?_
  refine EndsE.st (b := (226, _, _, _, 2, 6)) (s_iadd at_225) ?_
  refine EndsE.st (b := (228, [_, _, _, _, _, _, _, _, _, _, _, _, _, _, _, _, _, _, _, _], _, _, 2, 6)) (s_istore at_226 rfl) ?_
  refine EndsE.st (b := (230, _, _, _, 2, 6)) (s_aload at_228 rfl rfl) ?_
  refine EndsE.st (b := (232, _, _, _, 2, 6)) (s_iload at_230 rfl) ?_
  refine EndsE.st (b := (235, _, [_], _, 2, 6)) (s_callV (W := 0) (cid := 0) (hw _ (List.mem_of_getElem? (i := 24) rfl)) (hw _ (List.mem_of_getElem? (i := 26) rfl)) (hw _ (List.mem_of_getElem? (i := 10) rfl)) (hw _ (List.mem_of_getElem? (i := 28) rfl)) (hw _ (List.mem_of_getElem? (i := 25) rfl)) (hw _ (List.mem_of_getElem? (i := 27) rfl)) (by decide) rfl (lenOf pd6 rfl) at_232 rfl (hM) rfl rfl (by decide) (by decide) (by decide) (by decide)) ?_
  refine EndsE.st (b := (237, [_, _, _, _, _, _, _, _, _, _, _, _, _, _, _, _, _, _, _, _], _, _, 2, 6)) (s_istore at_235 rfl) ?_
  refine EndsE.st (b := (239, _, _, _, 2, 6)) (s_iload at_237 rfl) ?_
  refine EndsE.st (b := (241, _, _, _, 2, 6)) (s_iload at_239 rfl) ?_
  refine EndsE.st (b := (244, _, _, _, 2, 6)) (s_icmp_ne_f at_241 hres) ?_
  refine EndsE.st (b := (245, _, _, _, 2, 6)) (s_iconst (z := 1) at_244 rfl) ?_
  refine EndsE.st (b := (249, _, _, _, 2, 6)) (s_goto at_245 (by decide) (by decide)) ?_
  exact ⟨_, e_nreturn at_249 rfl (by simp) rfl (by decide) (by decide)⟩
theorem law_ok {l : Launch} {Z : State} {a0 : Array Value} (hw : ∀ d ∈ tables_1, d.before a0 Z = true) {ρ : oM} (nr a b d e bd : Int32) : ∃ A2, Met l Z CK ρ x code maxLocals ret room_1 tables_1 [.int nr, .int a, .int b, .int d, .int e, .int bd] [] (some (.int 1)) A2 := by
  obtain ⟨x0, ex0⟩ : ∃ z, z = jmin a b := ⟨_, rfl⟩
  have qx0 := jmin_le a b; rw [← ex0] at qx0
  obtain ⟨x1, ex1⟩ : ∃ z, z = jmax a b := ⟨_, rfl⟩
  have qx1 := jmax_le a b; rw [← ex1] at qx1
  obtain ⟨x2, ex2⟩ : ∃ z, z = jmin d e := ⟨_, rfl⟩
  have qx2 := jmin_le d e; rw [← ex2] at qx2
  obtain ⟨x3, ex3⟩ : ∃ z, z = jmax d e := ⟨_, rfl⟩
  have qx3 := jmax_le d e; rw [← ex3] at qx3
  obtain ⟨y0, ey0⟩ : ∃ z, z = jmin x0 x2 := ⟨_, rfl⟩
  have qy0 := jmin_le x0 x2; rw [← ey0] at qy0
  obtain ⟨y2, ey2⟩ : ∃ z, z = jmax x0 x2 := ⟨_, rfl⟩
  have qy2 := jmax_le x0 x2; rw [← ey2] at qy2
  obtain ⟨y1, ey1⟩ : ∃ z, z = jmin x1 x3 := ⟨_, rfl⟩
  have qy1 := jmin_le x1 x3; rw [← ey1] at qy1
  obtain ⟨y3, ey3⟩ : ∃ z, z = jmax x1 x3 := ⟨_, rfl⟩
  have qy3 := jmax_le x1 x3; rw [← ey3] at qy3
  obtain ⟨s1, es1⟩ : ∃ z, z = jmin y1 y2 := ⟨_, rfl⟩
  have qs1 := jmin_le y1 y2; rw [← es1] at qs1
  obtain ⟨s2, es2⟩ : ∃ z, z = jmax y1 y2 := ⟨_, rfl⟩
  have qs2 := jmax_le y1 y2; rw [← es2] at qs2
  have h1 : y0.toInt ≤ s1.toInt := by
    rcases qs1.2.2 with q | q
    · rw [q]; rcases qy1.2.2 with w | w <;> rw [w] <;> omega
    · rw [q]; omega
  have h2 : s1.toInt ≤ s2.toInt := by omega
  have h3 : s2.toInt ≤ y3.toInt := by
    rcases qs2.2.2 with q | q
    · rw [q]; omega
    · rw [q]; rcases qy2.2.2 with w | w <;> rw [w] <;> omega
  have hn := rem5 nr
  obtain ⟨n, en⟩ : ∃ z, z = (nr &&& 2147483647) % 5 := ⟨_, rfl⟩
  rw [← en] at hn
  rcases hn with hn | hn | hn | hn | hn
  · obtain ⟨A2, hE⟩ := tl0 (l := l) (ρ := ρ) hw nr a b d e bd x0 x1 x2 x3 y0 y2 y1 y3 s1 s2 h1 h2 h3
    refine ⟨A2, ?_⟩
    rw [hn] at en
    refine Met.of (L0 := [.val (.int nr), .val (.int a), .val (.int b), .val (.int d), .val (.int e), .val (.int bd), .unset, .unset, .unset, .unset, .unset, .unset, .unset, .unset, .unset, .unset, .unset, .unset, .unset, .unset]) pn0 (oentry rfl) rfl ?_
    refine Ends.st (b := (1, _, _, _, 0, 0)) (s_iloadN at_0 rfl) ?_
    refine Ends.st (b := (3, _, _, _, 0, 0)) (s_ldc (hw _ (List.mem_of_getElem? (i := 0) rfl)) at_1) ?_
    refine Ends.st (b := (4, _, _, _, 0, 0)) (s_iand at_3) ?_
    refine Ends.st (b := (5, _, _, _, 0, 0)) (s_iconst (z := 5) at_4 rfl) ?_
    refine Ends.st (b := (6, _, _, _, 0, 0)) (s_irem at_5 (by decide)) ?_
    rw [← en]
    refine Ends.st (b := (8, [_, _, _, _, _, _, _, _, _, _, _, _, _, _, _, _, _, _, _, _], _, _, 0, 0)) (s_istore at_6 rfl) ?_
    refine Ends.st (b := (9, _, _, _, 0, 0)) (s_iloadN at_8 rfl) ?_
    refine Ends.st (b := (10, _, _, _, 0, 0)) (s_iloadN at_9 rfl) ?_
    refine Ends.st (b := (13, _, [_], _, 0, 0)) (s_callS (W := 0) (hw _ (List.mem_of_getElem? (i := 1) rfl)) (hw _ (List.mem_of_getElem? (i := 2) rfl)) (hw _ (List.mem_of_getElem? (i := 3) rfl)) (hw _ (List.mem_of_getElem? (i := 4) rfl)) (by decide) (lenOf pd1 rfl) at_10 (m1 hw _ _) rfl rfl (by decide) (by decide) (by decide) (by decide)) ?_
    rw [← ex0]
    refine Ends.st (b := (15, [_, _, _, _, _, _, _, _, _, _, _, _, _, _, _, _, _, _, _, _], _, _, 0, 0)) (s_istore at_13 rfl) ?_
    refine Ends.st (b := (16, _, _, _, 0, 0)) (s_iloadN at_15 rfl) ?_
    refine Ends.st (b := (17, _, _, _, 0, 0)) (s_iloadN at_16 rfl) ?_
    refine Ends.st (b := (20, _, [_], _, 0, 0)) (s_callS (W := 0) (hw _ (List.mem_of_getElem? (i := 5) rfl)) (hw _ (List.mem_of_getElem? (i := 6) rfl)) (hw _ (List.mem_of_getElem? (i := 3) rfl)) (hw _ (List.mem_of_getElem? (i := 7) rfl)) (by decide) (lenOf pd2 rfl) at_17 (m2 hw _ _) rfl rfl (by decide) (by decide) (by decide) (by decide)) ?_
    rw [← ex1]
    refine Ends.st (b := (22, [_, _, _, _, _, _, _, _, _, _, _, _, _, _, _, _, _, _, _, _], _, _, 0, 0)) (s_istore at_20 rfl) ?_
    refine Ends.st (b := (23, _, _, _, 0, 0)) (s_iloadN at_22 rfl) ?_
    refine Ends.st (b := (25, _, _, _, 0, 0)) (s_iload at_23 rfl) ?_
    refine Ends.st (b := (28, _, [_], _, 0, 0)) (s_callS (W := 0) (hw _ (List.mem_of_getElem? (i := 1) rfl)) (hw _ (List.mem_of_getElem? (i := 2) rfl)) (hw _ (List.mem_of_getElem? (i := 3) rfl)) (hw _ (List.mem_of_getElem? (i := 4) rfl)) (by decide) (lenOf pd1 rfl) at_25 (m1 hw _ _) rfl rfl (by decide) (by decide) (by decide) (by decide)) ?_
    rw [← ex2]
    refine Ends.st (b := (30, [_, _, _, _, _, _, _, _, _, _, _, _, _, _, _, _, _, _, _, _], _, _, 0, 0)) (s_istore at_28 rfl) ?_
    refine Ends.st (b := (31, _, _, _, 0, 0)) (s_iloadN at_30 rfl) ?_
    refine Ends.st (b := (33, _, _, _, 0, 0)) (s_iload at_31 rfl) ?_
    refine Ends.st (b := (36, _, [_], _, 0, 0)) (s_callS (W := 0) (hw _ (List.mem_of_getElem? (i := 5) rfl)) (hw _ (List.mem_of_getElem? (i := 6) rfl)) (hw _ (List.mem_of_getElem? (i := 3) rfl)) (hw _ (List.mem_of_getElem? (i := 7) rfl)) (by decide) (lenOf pd2 rfl) at_33 (m2 hw _ _) rfl rfl (by decide) (by decide) (by decide) (by decide)) ?_
    rw [← ex3]
    refine Ends.st (b := (38, [_, _, _, _, _, _, _, _, _, _, _, _, _, _, _, _, _, _, _, _], _, _, 0, 0)) (s_istore at_36 rfl) ?_
    refine Ends.st (b := (40, _, _, _, 0, 0)) (s_iload at_38 rfl) ?_
    refine Ends.st (b := (42, _, _, _, 0, 0)) (s_iload at_40 rfl) ?_
    refine Ends.st (b := (45, _, [_], _, 0, 0)) (s_callS (W := 0) (hw _ (List.mem_of_getElem? (i := 1) rfl)) (hw _ (List.mem_of_getElem? (i := 2) rfl)) (hw _ (List.mem_of_getElem? (i := 3) rfl)) (hw _ (List.mem_of_getElem? (i := 4) rfl)) (by decide) (lenOf pd1 rfl) at_42 (m1 hw _ _) rfl rfl (by decide) (by decide) (by decide) (by decide)) ?_
    rw [← ey0]
    refine Ends.st (b := (47, [_, _, _, _, _, _, _, _, _, _, _, _, _, _, _, _, _, _, _, _], _, _, 0, 0)) (s_istore at_45 rfl) ?_
    refine Ends.st (b := (49, _, _, _, 0, 0)) (s_iload at_47 rfl) ?_
    refine Ends.st (b := (51, _, _, _, 0, 0)) (s_iload at_49 rfl) ?_
    refine Ends.st (b := (54, _, [_], _, 0, 0)) (s_callS (W := 0) (hw _ (List.mem_of_getElem? (i := 5) rfl)) (hw _ (List.mem_of_getElem? (i := 6) rfl)) (hw _ (List.mem_of_getElem? (i := 3) rfl)) (hw _ (List.mem_of_getElem? (i := 7) rfl)) (by decide) (lenOf pd2 rfl) at_51 (m2 hw _ _) rfl rfl (by decide) (by decide) (by decide) (by decide)) ?_
    rw [← ey2]
    refine Ends.st (b := (56, [_, _, _, _, _, _, _, _, _, _, _, _, _, _, _, _, _, _, _, _], _, _, 0, 0)) (s_istore at_54 rfl) ?_
    refine Ends.st (b := (58, _, _, _, 0, 0)) (s_iload at_56 rfl) ?_
    refine Ends.st (b := (60, _, _, _, 0, 0)) (s_iload at_58 rfl) ?_
    refine Ends.st (b := (63, _, [_], _, 0, 0)) (s_callS (W := 0) (hw _ (List.mem_of_getElem? (i := 1) rfl)) (hw _ (List.mem_of_getElem? (i := 2) rfl)) (hw _ (List.mem_of_getElem? (i := 3) rfl)) (hw _ (List.mem_of_getElem? (i := 4) rfl)) (by decide) (lenOf pd1 rfl) at_60 (m1 hw _ _) rfl rfl (by decide) (by decide) (by decide) (by decide)) ?_
    rw [← ey1]
    refine Ends.st (b := (65, [_, _, _, _, _, _, _, _, _, _, _, _, _, _, _, _, _, _, _, _], _, _, 0, 0)) (s_istore at_63 rfl) ?_
    refine Ends.st (b := (67, _, _, _, 0, 0)) (s_iload at_65 rfl) ?_
    refine Ends.st (b := (69, _, _, _, 0, 0)) (s_iload at_67 rfl) ?_
    refine Ends.st (b := (72, _, [_], _, 0, 0)) (s_callS (W := 0) (hw _ (List.mem_of_getElem? (i := 5) rfl)) (hw _ (List.mem_of_getElem? (i := 6) rfl)) (hw _ (List.mem_of_getElem? (i := 3) rfl)) (hw _ (List.mem_of_getElem? (i := 7) rfl)) (by decide) (lenOf pd2 rfl) at_69 (m2 hw _ _) rfl rfl (by decide) (by decide) (by decide) (by decide)) ?_
    rw [← ey3]
    refine Ends.st (b := (74, [_, _, _, _, _, _, _, _, _, _, _, _, _, _, _, _, _, _, _, _], _, _, 0, 0)) (s_istore at_72 rfl) ?_
    refine Ends.st (b := (76, _, _, _, 0, 0)) (s_iload at_74 rfl) ?_
    refine Ends.st (b := (78, _, _, _, 0, 0)) (s_iload at_76 rfl) ?_
    refine Ends.st (b := (81, _, [_], _, 0, 0)) (s_callS (W := 0) (hw _ (List.mem_of_getElem? (i := 1) rfl)) (hw _ (List.mem_of_getElem? (i := 2) rfl)) (hw _ (List.mem_of_getElem? (i := 3) rfl)) (hw _ (List.mem_of_getElem? (i := 4) rfl)) (by decide) (lenOf pd1 rfl) at_78 (m1 hw _ _) rfl rfl (by decide) (by decide) (by decide) (by decide)) ?_
    rw [← es1]
    refine Ends.st (b := (83, [_, _, _, _, _, _, _, _, _, _, _, _, _, _, _, _, _, _, _, _], _, _, 0, 0)) (s_istore at_81 rfl) ?_
    refine Ends.st (b := (85, _, _, _, 0, 0)) (s_iload at_83 rfl) ?_
    refine Ends.st (b := (87, _, _, _, 0, 0)) (s_iload at_85 rfl) ?_
    refine Ends.st (b := (90, _, [_], _, 0, 0)) (s_callS (W := 0) (hw _ (List.mem_of_getElem? (i := 5) rfl)) (hw _ (List.mem_of_getElem? (i := 6) rfl)) (hw _ (List.mem_of_getElem? (i := 3) rfl)) (hw _ (List.mem_of_getElem? (i := 7) rfl)) (by decide) (lenOf pd2 rfl) at_87 (m2 hw _ _) rfl rfl (by decide) (by decide) (by decide) (by decide)) ?_
    rw [← es2]
    refine Ends.st (b := (92, [_, _, _, _, _, _, _, _, _, _, _, _, _, _, _, _, _, _, _, _], _, _, 0, 0)) (s_istore at_90 rfl) ?_
    refine Ends.st (b := (95, _, _, [.inl (_, [_, _])], 1, 2)) (s_new (cid := 0) (j := 0) (vs := [.null, .int 0]) (hw _ (List.mem_of_getElem? (i := 8) rfl)) (hw _ (List.mem_of_getElem? (i := 9) rfl)) (hw _ (List.mem_of_getElem? (i := 10) rfl)) (kok0 hw) ⟨⟨(.array .int), by decide, rfl⟩, ⟨⟨.int, by decide, rfl⟩, trivial⟩⟩ at_92 rfl (by decide) (by decide) rfl) ?_
    refine Ends.st (b := (96, _, _, _, 1, 2)) (s_dup at_95 rfl) ?_
    refine Ends.st (b := (99, _, [_], _, 2, 6)) (s_callI (W := 1) rfl (hw _ (List.mem_of_getElem? (i := 11) rfl)) (hw _ (List.mem_of_getElem? (i := 12) rfl)) (hw _ (List.mem_of_getElem? (i := 10) rfl)) (hw _ (List.mem_of_getElem? (i := 13) rfl)) (by decide) (lenOf pd3 rfl) at_96 (m3 hw) rfl rfl (by decide) (by decide) (by decide) (by decide)) ?_
    refine Ends.st (b := (101, [_, _, _, _, _, _, _, _, _, _, _, _, _, _, _, _, _, _, _, _], _, _, 2, 6)) (s_astore at_99 rfl rfl) ?_
    exact hE
  · obtain ⟨A2, hE⟩ := tl1 (l := l) (ρ := ρ) hw nr a b d e bd x0 x1 x2 x3 y0 y2 y1 y3 s1 s2 h1 h2 h3
    refine ⟨A2, ?_⟩
    rw [hn] at en
    refine Met.of (L0 := [.val (.int nr), .val (.int a), .val (.int b), .val (.int d), .val (.int e), .val (.int bd), .unset, .unset, .unset, .unset, .unset, .unset, .unset, .unset, .unset, .unset, .unset, .unset, .unset, .unset]) pn0 (oentry rfl) rfl ?_
    refine Ends.st (b := (1, _, _, _, 0, 0)) (s_iloadN at_0 rfl) ?_
    refine Ends.st (b := (3, _, _, _, 0, 0)) (s_ldc (hw _ (List.mem_of_getElem? (i := 0) rfl)) at_1) ?_
    refine Ends.st (b := (4, _, _, _, 0, 0)) (s_iand at_3) ?_
    refine Ends.st (b := (5, _, _, _, 0, 0)) (s_iconst (z := 5) at_4 rfl) ?_
    refine Ends.st (b := (6, _, _, _, 0, 0)) (s_irem at_5 (by decide)) ?_
    rw [← en]
    refine Ends.st (b := (8, [_, _, _, _, _, _, _, _, _, _, _, _, _, _, _, _, _, _, _, _], _, _, 0, 0)) (s_istore at_6 rfl) ?_
    refine Ends.st (b := (9, _, _, _, 0, 0)) (s_iloadN at_8 rfl) ?_
    refine Ends.st (b := (10, _, _, _, 0, 0)) (s_iloadN at_9 rfl) ?_
    refine Ends.st (b := (13, _, [_], _, 0, 0)) (s_callS (W := 0) (hw _ (List.mem_of_getElem? (i := 1) rfl)) (hw _ (List.mem_of_getElem? (i := 2) rfl)) (hw _ (List.mem_of_getElem? (i := 3) rfl)) (hw _ (List.mem_of_getElem? (i := 4) rfl)) (by decide) (lenOf pd1 rfl) at_10 (m1 hw _ _) rfl rfl (by decide) (by decide) (by decide) (by decide)) ?_
    rw [← ex0]
    refine Ends.st (b := (15, [_, _, _, _, _, _, _, _, _, _, _, _, _, _, _, _, _, _, _, _], _, _, 0, 0)) (s_istore at_13 rfl) ?_
    refine Ends.st (b := (16, _, _, _, 0, 0)) (s_iloadN at_15 rfl) ?_
    refine Ends.st (b := (17, _, _, _, 0, 0)) (s_iloadN at_16 rfl) ?_
    refine Ends.st (b := (20, _, [_], _, 0, 0)) (s_callS (W := 0) (hw _ (List.mem_of_getElem? (i := 5) rfl)) (hw _ (List.mem_of_getElem? (i := 6) rfl)) (hw _ (List.mem_of_getElem? (i := 3) rfl)) (hw _ (List.mem_of_getElem? (i := 7) rfl)) (by decide) (lenOf pd2 rfl) at_17 (m2 hw _ _) rfl rfl (by decide) (by decide) (by decide) (by decide)) ?_
    rw [← ex1]
    refine Ends.st (b := (22, [_, _, _, _, _, _, _, _, _, _, _, _, _, _, _, _, _, _, _, _], _, _, 0, 0)) (s_istore at_20 rfl) ?_
    refine Ends.st (b := (23, _, _, _, 0, 0)) (s_iloadN at_22 rfl) ?_
    refine Ends.st (b := (25, _, _, _, 0, 0)) (s_iload at_23 rfl) ?_
    refine Ends.st (b := (28, _, [_], _, 0, 0)) (s_callS (W := 0) (hw _ (List.mem_of_getElem? (i := 1) rfl)) (hw _ (List.mem_of_getElem? (i := 2) rfl)) (hw _ (List.mem_of_getElem? (i := 3) rfl)) (hw _ (List.mem_of_getElem? (i := 4) rfl)) (by decide) (lenOf pd1 rfl) at_25 (m1 hw _ _) rfl rfl (by decide) (by decide) (by decide) (by decide)) ?_
    rw [← ex2]
    refine Ends.st (b := (30, [_, _, _, _, _, _, _, _, _, _, _, _, _, _, _, _, _, _, _, _], _, _, 0, 0)) (s_istore at_28 rfl) ?_
    refine Ends.st (b := (31, _, _, _, 0, 0)) (s_iloadN at_30 rfl) ?_
    refine Ends.st (b := (33, _, _, _, 0, 0)) (s_iload at_31 rfl) ?_
    refine Ends.st (b := (36, _, [_], _, 0, 0)) (s_callS (W := 0) (hw _ (List.mem_of_getElem? (i := 5) rfl)) (hw _ (List.mem_of_getElem? (i := 6) rfl)) (hw _ (List.mem_of_getElem? (i := 3) rfl)) (hw _ (List.mem_of_getElem? (i := 7) rfl)) (by decide) (lenOf pd2 rfl) at_33 (m2 hw _ _) rfl rfl (by decide) (by decide) (by decide) (by decide)) ?_
    rw [← ex3]
    refine Ends.st (b := (38, [_, _, _, _, _, _, _, _, _, _, _, _, _, _, _, _, _, _, _, _], _, _, 0, 0)) (s_istore at_36 rfl) ?_
    refine Ends.st (b := (40, _, _, _, 0, 0)) (s_iload at_38 rfl) ?_
    refine Ends.st (b := (42, _, _, _, 0, 0)) (s_iload at_40 rfl) ?_
    refine Ends.st (b := (45, _, [_], _, 0, 0)) (s_callS (W := 0) (hw _ (List.mem_of_getElem? (i := 1) rfl)) (hw _ (List.mem_of_getElem? (i := 2) rfl)) (hw _ (List.mem_of_getElem? (i := 3) rfl)) (hw _ (List.mem_of_getElem? (i := 4) rfl)) (by decide) (lenOf pd1 rfl) at_42 (m1 hw _ _) rfl rfl (by decide) (by decide) (by decide) (by decide)) ?_
    rw [← ey0]
    refine Ends.st (b := (47, [_, _, _, _, _, _, _, _, _, _, _, _, _, _, _, _, _, _, _, _], _, _, 0, 0)) (s_istore at_45 rfl) ?_
    refine Ends.st (b := (49, _, _, _, 0, 0)) (s_iload at_47 rfl) ?_
    refine Ends.st (b := (51, _, _, _, 0, 0)) (s_iload at_49 rfl) ?_
    refine Ends.st (b := (54, _, [_], _, 0, 0)) (s_callS (W := 0) (hw _ (List.mem_of_getElem? (i := 5) rfl)) (hw _ (List.mem_of_getElem? (i := 6) rfl)) (hw _ (List.mem_of_getElem? (i := 3) rfl)) (hw _ (List.mem_of_getElem? (i := 7) rfl)) (by decide) (lenOf pd2 rfl) at_51 (m2 hw _ _) rfl rfl (by decide) (by decide) (by decide) (by decide)) ?_
    rw [← ey2]
    refine Ends.st (b := (56, [_, _, _, _, _, _, _, _, _, _, _, _, _, _, _, _, _, _, _, _], _, _, 0, 0)) (s_istore at_54 rfl) ?_
    refine Ends.st (b := (58, _, _, _, 0, 0)) (s_iload at_56 rfl) ?_
    refine Ends.st (b := (60, _, _, _, 0, 0)) (s_iload at_58 rfl) ?_
    refine Ends.st (b := (63, _, [_], _, 0, 0)) (s_callS (W := 0) (hw _ (List.mem_of_getElem? (i := 1) rfl)) (hw _ (List.mem_of_getElem? (i := 2) rfl)) (hw _ (List.mem_of_getElem? (i := 3) rfl)) (hw _ (List.mem_of_getElem? (i := 4) rfl)) (by decide) (lenOf pd1 rfl) at_60 (m1 hw _ _) rfl rfl (by decide) (by decide) (by decide) (by decide)) ?_
    rw [← ey1]
    refine Ends.st (b := (65, [_, _, _, _, _, _, _, _, _, _, _, _, _, _, _, _, _, _, _, _], _, _, 0, 0)) (s_istore at_63 rfl) ?_
    refine Ends.st (b := (67, _, _, _, 0, 0)) (s_iload at_65 rfl) ?_
    refine Ends.st (b := (69, _, _, _, 0, 0)) (s_iload at_67 rfl) ?_
    refine Ends.st (b := (72, _, [_], _, 0, 0)) (s_callS (W := 0) (hw _ (List.mem_of_getElem? (i := 5) rfl)) (hw _ (List.mem_of_getElem? (i := 6) rfl)) (hw _ (List.mem_of_getElem? (i := 3) rfl)) (hw _ (List.mem_of_getElem? (i := 7) rfl)) (by decide) (lenOf pd2 rfl) at_69 (m2 hw _ _) rfl rfl (by decide) (by decide) (by decide) (by decide)) ?_
    rw [← ey3]
    refine Ends.st (b := (74, [_, _, _, _, _, _, _, _, _, _, _, _, _, _, _, _, _, _, _, _], _, _, 0, 0)) (s_istore at_72 rfl) ?_
    refine Ends.st (b := (76, _, _, _, 0, 0)) (s_iload at_74 rfl) ?_
    refine Ends.st (b := (78, _, _, _, 0, 0)) (s_iload at_76 rfl) ?_
    refine Ends.st (b := (81, _, [_], _, 0, 0)) (s_callS (W := 0) (hw _ (List.mem_of_getElem? (i := 1) rfl)) (hw _ (List.mem_of_getElem? (i := 2) rfl)) (hw _ (List.mem_of_getElem? (i := 3) rfl)) (hw _ (List.mem_of_getElem? (i := 4) rfl)) (by decide) (lenOf pd1 rfl) at_78 (m1 hw _ _) rfl rfl (by decide) (by decide) (by decide) (by decide)) ?_
    rw [← es1]
    refine Ends.st (b := (83, [_, _, _, _, _, _, _, _, _, _, _, _, _, _, _, _, _, _, _, _], _, _, 0, 0)) (s_istore at_81 rfl) ?_
    refine Ends.st (b := (85, _, _, _, 0, 0)) (s_iload at_83 rfl) ?_
    refine Ends.st (b := (87, _, _, _, 0, 0)) (s_iload at_85 rfl) ?_
    refine Ends.st (b := (90, _, [_], _, 0, 0)) (s_callS (W := 0) (hw _ (List.mem_of_getElem? (i := 5) rfl)) (hw _ (List.mem_of_getElem? (i := 6) rfl)) (hw _ (List.mem_of_getElem? (i := 3) rfl)) (hw _ (List.mem_of_getElem? (i := 7) rfl)) (by decide) (lenOf pd2 rfl) at_87 (m2 hw _ _) rfl rfl (by decide) (by decide) (by decide) (by decide)) ?_
    rw [← es2]
    refine Ends.st (b := (92, [_, _, _, _, _, _, _, _, _, _, _, _, _, _, _, _, _, _, _, _], _, _, 0, 0)) (s_istore at_90 rfl) ?_
    refine Ends.st (b := (95, _, _, [.inl (_, [_, _])], 1, 2)) (s_new (cid := 0) (j := 0) (vs := [.null, .int 0]) (hw _ (List.mem_of_getElem? (i := 8) rfl)) (hw _ (List.mem_of_getElem? (i := 9) rfl)) (hw _ (List.mem_of_getElem? (i := 10) rfl)) (kok0 hw) ⟨⟨(.array .int), by decide, rfl⟩, ⟨⟨.int, by decide, rfl⟩, trivial⟩⟩ at_92 rfl (by decide) (by decide) rfl) ?_
    refine Ends.st (b := (96, _, _, _, 1, 2)) (s_dup at_95 rfl) ?_
    refine Ends.st (b := (99, _, [_], _, 2, 6)) (s_callI (W := 1) rfl (hw _ (List.mem_of_getElem? (i := 11) rfl)) (hw _ (List.mem_of_getElem? (i := 12) rfl)) (hw _ (List.mem_of_getElem? (i := 10) rfl)) (hw _ (List.mem_of_getElem? (i := 13) rfl)) (by decide) (lenOf pd3 rfl) at_96 (m3 hw) rfl rfl (by decide) (by decide) (by decide) (by decide)) ?_
    refine Ends.st (b := (101, [_, _, _, _, _, _, _, _, _, _, _, _, _, _, _, _, _, _, _, _], _, _, 2, 6)) (s_astore at_99 rfl rfl) ?_
    exact hE
  · obtain ⟨A2, hE⟩ := tl2 (l := l) (ρ := ρ) hw nr a b d e bd x0 x1 x2 x3 y0 y2 y1 y3 s1 s2 h1 h2 h3
    refine ⟨A2, ?_⟩
    rw [hn] at en
    refine Met.of (L0 := [.val (.int nr), .val (.int a), .val (.int b), .val (.int d), .val (.int e), .val (.int bd), .unset, .unset, .unset, .unset, .unset, .unset, .unset, .unset, .unset, .unset, .unset, .unset, .unset, .unset]) pn0 (oentry rfl) rfl ?_
    refine Ends.st (b := (1, _, _, _, 0, 0)) (s_iloadN at_0 rfl) ?_
    refine Ends.st (b := (3, _, _, _, 0, 0)) (s_ldc (hw _ (List.mem_of_getElem? (i := 0) rfl)) at_1) ?_
    refine Ends.st (b := (4, _, _, _, 0, 0)) (s_iand at_3) ?_
    refine Ends.st (b := (5, _, _, _, 0, 0)) (s_iconst (z := 5) at_4 rfl) ?_
    refine Ends.st (b := (6, _, _, _, 0, 0)) (s_irem at_5 (by decide)) ?_
    rw [← en]
    refine Ends.st (b := (8, [_, _, _, _, _, _, _, _, _, _, _, _, _, _, _, _, _, _, _, _], _, _, 0, 0)) (s_istore at_6 rfl) ?_
    refine Ends.st (b := (9, _, _, _, 0, 0)) (s_iloadN at_8 rfl) ?_
    refine Ends.st (b := (10, _, _, _, 0, 0)) (s_iloadN at_9 rfl) ?_
    refine Ends.st (b := (13, _, [_], _, 0, 0)) (s_callS (W := 0) (hw _ (List.mem_of_getElem? (i := 1) rfl)) (hw _ (List.mem_of_getElem? (i := 2) rfl)) (hw _ (List.mem_of_getElem? (i := 3) rfl)) (hw _ (List.mem_of_getElem? (i := 4) rfl)) (by decide) (lenOf pd1 rfl) at_10 (m1 hw _ _) rfl rfl (by decide) (by decide) (by decide) (by decide)) ?_
    rw [← ex0]
    refine Ends.st (b := (15, [_, _, _, _, _, _, _, _, _, _, _, _, _, _, _, _, _, _, _, _], _, _, 0, 0)) (s_istore at_13 rfl) ?_
    refine Ends.st (b := (16, _, _, _, 0, 0)) (s_iloadN at_15 rfl) ?_
    refine Ends.st (b := (17, _, _, _, 0, 0)) (s_iloadN at_16 rfl) ?_
    refine Ends.st (b := (20, _, [_], _, 0, 0)) (s_callS (W := 0) (hw _ (List.mem_of_getElem? (i := 5) rfl)) (hw _ (List.mem_of_getElem? (i := 6) rfl)) (hw _ (List.mem_of_getElem? (i := 3) rfl)) (hw _ (List.mem_of_getElem? (i := 7) rfl)) (by decide) (lenOf pd2 rfl) at_17 (m2 hw _ _) rfl rfl (by decide) (by decide) (by decide) (by decide)) ?_
    rw [← ex1]
    refine Ends.st (b := (22, [_, _, _, _, _, _, _, _, _, _, _, _, _, _, _, _, _, _, _, _], _, _, 0, 0)) (s_istore at_20 rfl) ?_
    refine Ends.st (b := (23, _, _, _, 0, 0)) (s_iloadN at_22 rfl) ?_
    refine Ends.st (b := (25, _, _, _, 0, 0)) (s_iload at_23 rfl) ?_
    refine Ends.st (b := (28, _, [_], _, 0, 0)) (s_callS (W := 0) (hw _ (List.mem_of_getElem? (i := 1) rfl)) (hw _ (List.mem_of_getElem? (i := 2) rfl)) (hw _ (List.mem_of_getElem? (i := 3) rfl)) (hw _ (List.mem_of_getElem? (i := 4) rfl)) (by decide) (lenOf pd1 rfl) at_25 (m1 hw _ _) rfl rfl (by decide) (by decide) (by decide) (by decide)) ?_
    rw [← ex2]
    refine Ends.st (b := (30, [_, _, _, _, _, _, _, _, _, _, _, _, _, _, _, _, _, _, _, _], _, _, 0, 0)) (s_istore at_28 rfl) ?_
    refine Ends.st (b := (31, _, _, _, 0, 0)) (s_iloadN at_30 rfl) ?_
    refine Ends.st (b := (33, _, _, _, 0, 0)) (s_iload at_31 rfl) ?_
    refine Ends.st (b := (36, _, [_], _, 0, 0)) (s_callS (W := 0) (hw _ (List.mem_of_getElem? (i := 5) rfl)) (hw _ (List.mem_of_getElem? (i := 6) rfl)) (hw _ (List.mem_of_getElem? (i := 3) rfl)) (hw _ (List.mem_of_getElem? (i := 7) rfl)) (by decide) (lenOf pd2 rfl) at_33 (m2 hw _ _) rfl rfl (by decide) (by decide) (by decide) (by decide)) ?_
    rw [← ex3]
    refine Ends.st (b := (38, [_, _, _, _, _, _, _, _, _, _, _, _, _, _, _, _, _, _, _, _], _, _, 0, 0)) (s_istore at_36 rfl) ?_
    refine Ends.st (b := (40, _, _, _, 0, 0)) (s_iload at_38 rfl) ?_
    refine Ends.st (b := (42, _, _, _, 0, 0)) (s_iload at_40 rfl) ?_
    refine Ends.st (b := (45, _, [_], _, 0, 0)) (s_callS (W := 0) (hw _ (List.mem_of_getElem? (i := 1) rfl)) (hw _ (List.mem_of_getElem? (i := 2) rfl)) (hw _ (List.mem_of_getElem? (i := 3) rfl)) (hw _ (List.mem_of_getElem? (i := 4) rfl)) (by decide) (lenOf pd1 rfl) at_42 (m1 hw _ _) rfl rfl (by decide) (by decide) (by decide) (by decide)) ?_
    rw [← ey0]
    refine Ends.st (b := (47, [_, _, _, _, _, _, _, _, _, _, _, _, _, _, _, _, _, _, _, _], _, _, 0, 0)) (s_istore at_45 rfl) ?_
    refine Ends.st (b := (49, _, _, _, 0, 0)) (s_iload at_47 rfl) ?_
    refine Ends.st (b := (51, _, _, _, 0, 0)) (s_iload at_49 rfl) ?_
    refine Ends.st (b := (54, _, [_], _, 0, 0)) (s_callS (W := 0) (hw _ (List.mem_of_getElem? (i := 5) rfl)) (hw _ (List.mem_of_getElem? (i := 6) rfl)) (hw _ (List.mem_of_getElem? (i := 3) rfl)) (hw _ (List.mem_of_getElem? (i := 7) rfl)) (by decide) (lenOf pd2 rfl) at_51 (m2 hw _ _) rfl rfl (by decide) (by decide) (by decide) (by decide)) ?_
    rw [← ey2]
    refine Ends.st (b := (56, [_, _, _, _, _, _, _, _, _, _, _, _, _, _, _, _, _, _, _, _], _, _, 0, 0)) (s_istore at_54 rfl) ?_
    refine Ends.st (b := (58, _, _, _, 0, 0)) (s_iload at_56 rfl) ?_
    refine Ends.st (b := (60, _, _, _, 0, 0)) (s_iload at_58 rfl) ?_
    refine Ends.st (b := (63, _, [_], _, 0, 0)) (s_callS (W := 0) (hw _ (List.mem_of_getElem? (i := 1) rfl)) (hw _ (List.mem_of_getElem? (i := 2) rfl)) (hw _ (List.mem_of_getElem? (i := 3) rfl)) (hw _ (List.mem_of_getElem? (i := 4) rfl)) (by decide) (lenOf pd1 rfl) at_60 (m1 hw _ _) rfl rfl (by decide) (by decide) (by decide) (by decide)) ?_
    rw [← ey1]
    refine Ends.st (b := (65, [_, _, _, _, _, _, _, _, _, _, _, _, _, _, _, _, _, _, _, _], _, _, 0, 0)) (s_istore at_63 rfl) ?_
    refine Ends.st (b := (67, _, _, _, 0, 0)) (s_iload at_65 rfl) ?_
    refine Ends.st (b := (69, _, _, _, 0, 0)) (s_iload at_67 rfl) ?_
    refine Ends.st (b := (72, _, [_], _, 0, 0)) (s_callS (W := 0) (hw _ (List.mem_of_getElem? (i := 5) rfl)) (hw _ (List.mem_of_getElem? (i := 6) rfl)) (hw _ (List.mem_of_getElem? (i := 3) rfl)) (hw _ (List.mem_of_getElem? (i := 7) rfl)) (by decide) (lenOf pd2 rfl) at_69 (m2 hw _ _) rfl rfl (by decide) (by decide) (by decide) (by decide)) ?_
    rw [← ey3]
    refine Ends.st (b := (74, [_, _, _, _, _, _, _, _, _, _, _, _, _, _, _, _, _, _, _, _], _, _, 0, 0)) (s_istore at_72 rfl) ?_
    refine Ends.st (b := (76, _, _, _, 0, 0)) (s_iload at_74 rfl) ?_
    refine Ends.st (b := (78, _, _, _, 0, 0)) (s_iload at_76 rfl) ?_
    refine Ends.st (b := (81, _, [_], _, 0, 0)) (s_callS (W := 0) (hw _ (List.mem_of_getElem? (i := 1) rfl)) (hw _ (List.mem_of_getElem? (i := 2) rfl)) (hw _ (List.mem_of_getElem? (i := 3) rfl)) (hw _ (List.mem_of_getElem? (i := 4) rfl)) (by decide) (lenOf pd1 rfl) at_78 (m1 hw _ _) rfl rfl (by decide) (by decide) (by decide) (by decide)) ?_
    rw [← es1]
    refine Ends.st (b := (83, [_, _, _, _, _, _, _, _, _, _, _, _, _, _, _, _, _, _, _, _], _, _, 0, 0)) (s_istore at_81 rfl) ?_
    refine Ends.st (b := (85, _, _, _, 0, 0)) (s_iload at_83 rfl) ?_
    refine Ends.st (b := (87, _, _, _, 0, 0)) (s_iload at_85 rfl) ?_
    refine Ends.st (b := (90, _, [_], _, 0, 0)) (s_callS (W := 0) (hw _ (List.mem_of_getElem? (i := 5) rfl)) (hw _ (List.mem_of_getElem? (i := 6) rfl)) (hw _ (List.mem_of_getElem? (i := 3) rfl)) (hw _ (List.mem_of_getElem? (i := 7) rfl)) (by decide) (lenOf pd2 rfl) at_87 (m2 hw _ _) rfl rfl (by decide) (by decide) (by decide) (by decide)) ?_
    rw [← es2]
    refine Ends.st (b := (92, [_, _, _, _, _, _, _, _, _, _, _, _, _, _, _, _, _, _, _, _], _, _, 0, 0)) (s_istore at_90 rfl) ?_
    refine Ends.st (b := (95, _, _, [.inl (_, [_, _])], 1, 2)) (s_new (cid := 0) (j := 0) (vs := [.null, .int 0]) (hw _ (List.mem_of_getElem? (i := 8) rfl)) (hw _ (List.mem_of_getElem? (i := 9) rfl)) (hw _ (List.mem_of_getElem? (i := 10) rfl)) (kok0 hw) ⟨⟨(.array .int), by decide, rfl⟩, ⟨⟨.int, by decide, rfl⟩, trivial⟩⟩ at_92 rfl (by decide) (by decide) rfl) ?_
    refine Ends.st (b := (96, _, _, _, 1, 2)) (s_dup at_95 rfl) ?_
    refine Ends.st (b := (99, _, [_], _, 2, 6)) (s_callI (W := 1) rfl (hw _ (List.mem_of_getElem? (i := 11) rfl)) (hw _ (List.mem_of_getElem? (i := 12) rfl)) (hw _ (List.mem_of_getElem? (i := 10) rfl)) (hw _ (List.mem_of_getElem? (i := 13) rfl)) (by decide) (lenOf pd3 rfl) at_96 (m3 hw) rfl rfl (by decide) (by decide) (by decide) (by decide)) ?_
    refine Ends.st (b := (101, [_, _, _, _, _, _, _, _, _, _, _, _, _, _, _, _, _, _, _, _], _, _, 2, 6)) (s_astore at_99 rfl rfl) ?_
    exact hE
  · obtain ⟨A2, hE⟩ := tl3 (l := l) (ρ := ρ) hw nr a b d e bd x0 x1 x2 x3 y0 y2 y1 y3 s1 s2 h1 h2 h3
    refine ⟨A2, ?_⟩
    rw [hn] at en
    refine Met.of (L0 := [.val (.int nr), .val (.int a), .val (.int b), .val (.int d), .val (.int e), .val (.int bd), .unset, .unset, .unset, .unset, .unset, .unset, .unset, .unset, .unset, .unset, .unset, .unset, .unset, .unset]) pn0 (oentry rfl) rfl ?_
    refine Ends.st (b := (1, _, _, _, 0, 0)) (s_iloadN at_0 rfl) ?_
    refine Ends.st (b := (3, _, _, _, 0, 0)) (s_ldc (hw _ (List.mem_of_getElem? (i := 0) rfl)) at_1) ?_
    refine Ends.st (b := (4, _, _, _, 0, 0)) (s_iand at_3) ?_
    refine Ends.st (b := (5, _, _, _, 0, 0)) (s_iconst (z := 5) at_4 rfl) ?_
    refine Ends.st (b := (6, _, _, _, 0, 0)) (s_irem at_5 (by decide)) ?_
    rw [← en]
    refine Ends.st (b := (8, [_, _, _, _, _, _, _, _, _, _, _, _, _, _, _, _, _, _, _, _], _, _, 0, 0)) (s_istore at_6 rfl) ?_
    refine Ends.st (b := (9, _, _, _, 0, 0)) (s_iloadN at_8 rfl) ?_
    refine Ends.st (b := (10, _, _, _, 0, 0)) (s_iloadN at_9 rfl) ?_
    refine Ends.st (b := (13, _, [_], _, 0, 0)) (s_callS (W := 0) (hw _ (List.mem_of_getElem? (i := 1) rfl)) (hw _ (List.mem_of_getElem? (i := 2) rfl)) (hw _ (List.mem_of_getElem? (i := 3) rfl)) (hw _ (List.mem_of_getElem? (i := 4) rfl)) (by decide) (lenOf pd1 rfl) at_10 (m1 hw _ _) rfl rfl (by decide) (by decide) (by decide) (by decide)) ?_
    rw [← ex0]
    refine Ends.st (b := (15, [_, _, _, _, _, _, _, _, _, _, _, _, _, _, _, _, _, _, _, _], _, _, 0, 0)) (s_istore at_13 rfl) ?_
    refine Ends.st (b := (16, _, _, _, 0, 0)) (s_iloadN at_15 rfl) ?_
    refine Ends.st (b := (17, _, _, _, 0, 0)) (s_iloadN at_16 rfl) ?_
    refine Ends.st (b := (20, _, [_], _, 0, 0)) (s_callS (W := 0) (hw _ (List.mem_of_getElem? (i := 5) rfl)) (hw _ (List.mem_of_getElem? (i := 6) rfl)) (hw _ (List.mem_of_getElem? (i := 3) rfl)) (hw _ (List.mem_of_getElem? (i := 7) rfl)) (by decide) (lenOf pd2 rfl) at_17 (m2 hw _ _) rfl rfl (by decide) (by decide) (by decide) (by decide)) ?_
    rw [← ex1]
    refine Ends.st (b := (22, [_, _, _, _, _, _, _, _, _, _, _, _, _, _, _, _, _, _, _, _], _, _, 0, 0)) (s_istore at_20 rfl) ?_
    refine Ends.st (b := (23, _, _, _, 0, 0)) (s_iloadN at_22 rfl) ?_
    refine Ends.st (b := (25, _, _, _, 0, 0)) (s_iload at_23 rfl) ?_
    refine Ends.st (b := (28, _, [_], _, 0, 0)) (s_callS (W := 0) (hw _ (List.mem_of_getElem? (i := 1) rfl)) (hw _ (List.mem_of_getElem? (i := 2) rfl)) (hw _ (List.mem_of_getElem? (i := 3) rfl)) (hw _ (List.mem_of_getElem? (i := 4) rfl)) (by decide) (lenOf pd1 rfl) at_25 (m1 hw _ _) rfl rfl (by decide) (by decide) (by decide) (by decide)) ?_
    rw [← ex2]
    refine Ends.st (b := (30, [_, _, _, _, _, _, _, _, _, _, _, _, _, _, _, _, _, _, _, _], _, _, 0, 0)) (s_istore at_28 rfl) ?_
    refine Ends.st (b := (31, _, _, _, 0, 0)) (s_iloadN at_30 rfl) ?_
    refine Ends.st (b := (33, _, _, _, 0, 0)) (s_iload at_31 rfl) ?_
    refine Ends.st (b := (36, _, [_], _, 0, 0)) (s_callS (W := 0) (hw _ (List.mem_of_getElem? (i := 5) rfl)) (hw _ (List.mem_of_getElem? (i := 6) rfl)) (hw _ (List.mem_of_getElem? (i := 3) rfl)) (hw _ (List.mem_of_getElem? (i := 7) rfl)) (by decide) (lenOf pd2 rfl) at_33 (m2 hw _ _) rfl rfl (by decide) (by decide) (by decide) (by decide)) ?_
    rw [← ex3]
    refine Ends.st (b := (38, [_, _, _, _, _, _, _, _, _, _, _, _, _, _, _, _, _, _, _, _], _, _, 0, 0)) (s_istore at_36 rfl) ?_
    refine Ends.st (b := (40, _, _, _, 0, 0)) (s_iload at_38 rfl) ?_
    refine Ends.st (b := (42, _, _, _, 0, 0)) (s_iload at_40 rfl) ?_
    refine Ends.st (b := (45, _, [_], _, 0, 0)) (s_callS (W := 0) (hw _ (List.mem_of_getElem? (i := 1) rfl)) (hw _ (List.mem_of_getElem? (i := 2) rfl)) (hw _ (List.mem_of_getElem? (i := 3) rfl)) (hw _ (List.mem_of_getElem? (i := 4) rfl)) (by decide) (lenOf pd1 rfl) at_42 (m1 hw _ _) rfl rfl (by decide) (by decide) (by decide) (by decide)) ?_
    rw [← ey0]
    refine Ends.st (b := (47, [_, _, _, _, _, _, _, _, _, _, _, _, _, _, _, _, _, _, _, _], _, _, 0, 0)) (s_istore at_45 rfl) ?_
    refine Ends.st (b := (49, _, _, _, 0, 0)) (s_iload at_47 rfl) ?_
    refine Ends.st (b := (51, _, _, _, 0, 0)) (s_iload at_49 rfl) ?_
    refine Ends.st (b := (54, _, [_], _, 0, 0)) (s_callS (W := 0) (hw _ (List.mem_of_getElem? (i := 5) rfl)) (hw _ (List.mem_of_getElem? (i := 6) rfl)) (hw _ (List.mem_of_getElem? (i := 3) rfl)) (hw _ (List.mem_of_getElem? (i := 7) rfl)) (by decide) (lenOf pd2 rfl) at_51 (m2 hw _ _) rfl rfl (by decide) (by decide) (by decide) (by decide)) ?_
    rw [← ey2]
    refine Ends.st (b := (56, [_, _, _, _, _, _, _, _, _, _, _, _, _, _, _, _, _, _, _, _], _, _, 0, 0)) (s_istore at_54 rfl) ?_
    refine Ends.st (b := (58, _, _, _, 0, 0)) (s_iload at_56 rfl) ?_
    refine Ends.st (b := (60, _, _, _, 0, 0)) (s_iload at_58 rfl) ?_
    refine Ends.st (b := (63, _, [_], _, 0, 0)) (s_callS (W := 0) (hw _ (List.mem_of_getElem? (i := 1) rfl)) (hw _ (List.mem_of_getElem? (i := 2) rfl)) (hw _ (List.mem_of_getElem? (i := 3) rfl)) (hw _ (List.mem_of_getElem? (i := 4) rfl)) (by decide) (lenOf pd1 rfl) at_60 (m1 hw _ _) rfl rfl (by decide) (by decide) (by decide) (by decide)) ?_
    rw [← ey1]
    refine Ends.st (b := (65, [_, _, _, _, _, _, _, _, _, _, _, _, _, _, _, _, _, _, _, _], _, _, 0, 0)) (s_istore at_63 rfl) ?_
    refine Ends.st (b := (67, _, _, _, 0, 0)) (s_iload at_65 rfl) ?_
    refine Ends.st (b := (69, _, _, _, 0, 0)) (s_iload at_67 rfl) ?_
    refine Ends.st (b := (72, _, [_], _, 0, 0)) (s_callS (W := 0) (hw _ (List.mem_of_getElem? (i := 5) rfl)) (hw _ (List.mem_of_getElem? (i := 6) rfl)) (hw _ (List.mem_of_getElem? (i := 3) rfl)) (hw _ (List.mem_of_getElem? (i := 7) rfl)) (by decide) (lenOf pd2 rfl) at_69 (m2 hw _ _) rfl rfl (by decide) (by decide) (by decide) (by decide)) ?_
    rw [← ey3]
    refine Ends.st (b := (74, [_, _, _, _, _, _, _, _, _, _, _, _, _, _, _, _, _, _, _, _], _, _, 0, 0)) (s_istore at_72 rfl) ?_
    refine Ends.st (b := (76, _, _, _, 0, 0)) (s_iload at_74 rfl) ?_
    refine Ends.st (b := (78, _, _, _, 0, 0)) (s_iload at_76 rfl) ?_
    refine Ends.st (b := (81, _, [_], _, 0, 0)) (s_callS (W := 0) (hw _ (List.mem_of_getElem? (i := 1) rfl)) (hw _ (List.mem_of_getElem? (i := 2) rfl)) (hw _ (List.mem_of_getElem? (i := 3) rfl)) (hw _ (List.mem_of_getElem? (i := 4) rfl)) (by decide) (lenOf pd1 rfl) at_78 (m1 hw _ _) rfl rfl (by decide) (by decide) (by decide) (by decide)) ?_
    rw [← es1]
    refine Ends.st (b := (83, [_, _, _, _, _, _, _, _, _, _, _, _, _, _, _, _, _, _, _, _], _, _, 0, 0)) (s_istore at_81 rfl) ?_
    refine Ends.st (b := (85, _, _, _, 0, 0)) (s_iload at_83 rfl) ?_
    refine Ends.st (b := (87, _, _, _, 0, 0)) (s_iload at_85 rfl) ?_
    refine Ends.st (b := (90, _, [_], _, 0, 0)) (s_callS (W := 0) (hw _ (List.mem_of_getElem? (i := 5) rfl)) (hw _ (List.mem_of_getElem? (i := 6) rfl)) (hw _ (List.mem_of_getElem? (i := 3) rfl)) (hw _ (List.mem_of_getElem? (i := 7) rfl)) (by decide) (lenOf pd2 rfl) at_87 (m2 hw _ _) rfl rfl (by decide) (by decide) (by decide) (by decide)) ?_
    rw [← es2]
    refine Ends.st (b := (92, [_, _, _, _, _, _, _, _, _, _, _, _, _, _, _, _, _, _, _, _], _, _, 0, 0)) (s_istore at_90 rfl) ?_
    refine Ends.st (b := (95, _, _, [.inl (_, [_, _])], 1, 2)) (s_new (cid := 0) (j := 0) (vs := [.null, .int 0]) (hw _ (List.mem_of_getElem? (i := 8) rfl)) (hw _ (List.mem_of_getElem? (i := 9) rfl)) (hw _ (List.mem_of_getElem? (i := 10) rfl)) (kok0 hw) ⟨⟨(.array .int), by decide, rfl⟩, ⟨⟨.int, by decide, rfl⟩, trivial⟩⟩ at_92 rfl (by decide) (by decide) rfl) ?_
    refine Ends.st (b := (96, _, _, _, 1, 2)) (s_dup at_95 rfl) ?_
    refine Ends.st (b := (99, _, [_], _, 2, 6)) (s_callI (W := 1) rfl (hw _ (List.mem_of_getElem? (i := 11) rfl)) (hw _ (List.mem_of_getElem? (i := 12) rfl)) (hw _ (List.mem_of_getElem? (i := 10) rfl)) (hw _ (List.mem_of_getElem? (i := 13) rfl)) (by decide) (lenOf pd3 rfl) at_96 (m3 hw) rfl rfl (by decide) (by decide) (by decide) (by decide)) ?_
    refine Ends.st (b := (101, [_, _, _, _, _, _, _, _, _, _, _, _, _, _, _, _, _, _, _, _], _, _, 2, 6)) (s_astore at_99 rfl rfl) ?_
    exact hE
  · obtain ⟨A2, hE⟩ := tl4 (l := l) (ρ := ρ) hw nr a b d e bd x0 x1 x2 x3 y0 y2 y1 y3 s1 s2 h1 h2 h3
    refine ⟨A2, ?_⟩
    rw [hn] at en
    refine Met.of (L0 := [.val (.int nr), .val (.int a), .val (.int b), .val (.int d), .val (.int e), .val (.int bd), .unset, .unset, .unset, .unset, .unset, .unset, .unset, .unset, .unset, .unset, .unset, .unset, .unset, .unset]) pn0 (oentry rfl) rfl ?_
    refine Ends.st (b := (1, _, _, _, 0, 0)) (s_iloadN at_0 rfl) ?_
    refine Ends.st (b := (3, _, _, _, 0, 0)) (s_ldc (hw _ (List.mem_of_getElem? (i := 0) rfl)) at_1) ?_
    refine Ends.st (b := (4, _, _, _, 0, 0)) (s_iand at_3) ?_
    refine Ends.st (b := (5, _, _, _, 0, 0)) (s_iconst (z := 5) at_4 rfl) ?_
    refine Ends.st (b := (6, _, _, _, 0, 0)) (s_irem at_5 (by decide)) ?_
    rw [← en]
    refine Ends.st (b := (8, [_, _, _, _, _, _, _, _, _, _, _, _, _, _, _, _, _, _, _, _], _, _, 0, 0)) (s_istore at_6 rfl) ?_
    refine Ends.st (b := (9, _, _, _, 0, 0)) (s_iloadN at_8 rfl) ?_
    refine Ends.st (b := (10, _, _, _, 0, 0)) (s_iloadN at_9 rfl) ?_
    refine Ends.st (b := (13, _, [_], _, 0, 0)) (s_callS (W := 0) (hw _ (List.mem_of_getElem? (i := 1) rfl)) (hw _ (List.mem_of_getElem? (i := 2) rfl)) (hw _ (List.mem_of_getElem? (i := 3) rfl)) (hw _ (List.mem_of_getElem? (i := 4) rfl)) (by decide) (lenOf pd1 rfl) at_10 (m1 hw _ _) rfl rfl (by decide) (by decide) (by decide) (by decide)) ?_
    rw [← ex0]
    refine Ends.st (b := (15, [_, _, _, _, _, _, _, _, _, _, _, _, _, _, _, _, _, _, _, _], _, _, 0, 0)) (s_istore at_13 rfl) ?_
    refine Ends.st (b := (16, _, _, _, 0, 0)) (s_iloadN at_15 rfl) ?_
    refine Ends.st (b := (17, _, _, _, 0, 0)) (s_iloadN at_16 rfl) ?_
    refine Ends.st (b := (20, _, [_], _, 0, 0)) (s_callS (W := 0) (hw _ (List.mem_of_getElem? (i := 5) rfl)) (hw _ (List.mem_of_getElem? (i := 6) rfl)) (hw _ (List.mem_of_getElem? (i := 3) rfl)) (hw _ (List.mem_of_getElem? (i := 7) rfl)) (by decide) (lenOf pd2 rfl) at_17 (m2 hw _ _) rfl rfl (by decide) (by decide) (by decide) (by decide)) ?_
    rw [← ex1]
    refine Ends.st (b := (22, [_, _, _, _, _, _, _, _, _, _, _, _, _, _, _, _, _, _, _, _], _, _, 0, 0)) (s_istore at_20 rfl) ?_
    refine Ends.st (b := (23, _, _, _, 0, 0)) (s_iloadN at_22 rfl) ?_
    refine Ends.st (b := (25, _, _, _, 0, 0)) (s_iload at_23 rfl) ?_
    refine Ends.st (b := (28, _, [_], _, 0, 0)) (s_callS (W := 0) (hw _ (List.mem_of_getElem? (i := 1) rfl)) (hw _ (List.mem_of_getElem? (i := 2) rfl)) (hw _ (List.mem_of_getElem? (i := 3) rfl)) (hw _ (List.mem_of_getElem? (i := 4) rfl)) (by decide) (lenOf pd1 rfl) at_25 (m1 hw _ _) rfl rfl (by decide) (by decide) (by decide) (by decide)) ?_
    rw [← ex2]
    refine Ends.st (b := (30, [_, _, _, _, _, _, _, _, _, _, _, _, _, _, _, _, _, _, _, _], _, _, 0, 0)) (s_istore at_28 rfl) ?_
    refine Ends.st (b := (31, _, _, _, 0, 0)) (s_iloadN at_30 rfl) ?_
    refine Ends.st (b := (33, _, _, _, 0, 0)) (s_iload at_31 rfl) ?_
    refine Ends.st (b := (36, _, [_], _, 0, 0)) (s_callS (W := 0) (hw _ (List.mem_of_getElem? (i := 5) rfl)) (hw _ (List.mem_of_getElem? (i := 6) rfl)) (hw _ (List.mem_of_getElem? (i := 3) rfl)) (hw _ (List.mem_of_getElem? (i := 7) rfl)) (by decide) (lenOf pd2 rfl) at_33 (m2 hw _ _) rfl rfl (by decide) (by decide) (by decide) (by decide)) ?_
    rw [← ex3]
    refine Ends.st (b := (38, [_, _, _, _, _, _, _, _, _, _, _, _, _, _, _, _, _, _, _, _], _, _, 0, 0)) (s_istore at_36 rfl) ?_
    refine Ends.st (b := (40, _, _, _, 0, 0)) (s_iload at_38 rfl) ?_
    refine Ends.st (b := (42, _, _, _, 0, 0)) (s_iload at_40 rfl) ?_
    refine Ends.st (b := (45, _, [_], _, 0, 0)) (s_callS (W := 0) (hw _ (List.mem_of_getElem? (i := 1) rfl)) (hw _ (List.mem_of_getElem? (i := 2) rfl)) (hw _ (List.mem_of_getElem? (i := 3) rfl)) (hw _ (List.mem_of_getElem? (i := 4) rfl)) (by decide) (lenOf pd1 rfl) at_42 (m1 hw _ _) rfl rfl (by decide) (by decide) (by decide) (by decide)) ?_
    rw [← ey0]
    refine Ends.st (b := (47, [_, _, _, _, _, _, _, _, _, _, _, _, _, _, _, _, _, _, _, _], _, _, 0, 0)) (s_istore at_45 rfl) ?_
    refine Ends.st (b := (49, _, _, _, 0, 0)) (s_iload at_47 rfl) ?_
    refine Ends.st (b := (51, _, _, _, 0, 0)) (s_iload at_49 rfl) ?_
    refine Ends.st (b := (54, _, [_], _, 0, 0)) (s_callS (W := 0) (hw _ (List.mem_of_getElem? (i := 5) rfl)) (hw _ (List.mem_of_getElem? (i := 6) rfl)) (hw _ (List.mem_of_getElem? (i := 3) rfl)) (hw _ (List.mem_of_getElem? (i := 7) rfl)) (by decide) (lenOf pd2 rfl) at_51 (m2 hw _ _) rfl rfl (by decide) (by decide) (by decide) (by decide)) ?_
    rw [← ey2]
    refine Ends.st (b := (56, [_, _, _, _, _, _, _, _, _, _, _, _, _, _, _, _, _, _, _, _], _, _, 0, 0)) (s_istore at_54 rfl) ?_
    refine Ends.st (b := (58, _, _, _, 0, 0)) (s_iload at_56 rfl) ?_
    refine Ends.st (b := (60, _, _, _, 0, 0)) (s_iload at_58 rfl) ?_
    refine Ends.st (b := (63, _, [_], _, 0, 0)) (s_callS (W := 0) (hw _ (List.mem_of_getElem? (i := 1) rfl)) (hw _ (List.mem_of_getElem? (i := 2) rfl)) (hw _ (List.mem_of_getElem? (i := 3) rfl)) (hw _ (List.mem_of_getElem? (i := 4) rfl)) (by decide) (lenOf pd1 rfl) at_60 (m1 hw _ _) rfl rfl (by decide) (by decide) (by decide) (by decide)) ?_
    rw [← ey1]
    refine Ends.st (b := (65, [_, _, _, _, _, _, _, _, _, _, _, _, _, _, _, _, _, _, _, _], _, _, 0, 0)) (s_istore at_63 rfl) ?_
    refine Ends.st (b := (67, _, _, _, 0, 0)) (s_iload at_65 rfl) ?_
    refine Ends.st (b := (69, _, _, _, 0, 0)) (s_iload at_67 rfl) ?_
    refine Ends.st (b := (72, _, [_], _, 0, 0)) (s_callS (W := 0) (hw _ (List.mem_of_getElem? (i := 5) rfl)) (hw _ (List.mem_of_getElem? (i := 6) rfl)) (hw _ (List.mem_of_getElem? (i := 3) rfl)) (hw _ (List.mem_of_getElem? (i := 7) rfl)) (by decide) (lenOf pd2 rfl) at_69 (m2 hw _ _) rfl rfl (by decide) (by decide) (by decide) (by decide)) ?_
    rw [← ey3]
    refine Ends.st (b := (74, [_, _, _, _, _, _, _, _, _, _, _, _, _, _, _, _, _, _, _, _], _, _, 0, 0)) (s_istore at_72 rfl) ?_
    refine Ends.st (b := (76, _, _, _, 0, 0)) (s_iload at_74 rfl) ?_
    refine Ends.st (b := (78, _, _, _, 0, 0)) (s_iload at_76 rfl) ?_
    refine Ends.st (b := (81, _, [_], _, 0, 0)) (s_callS (W := 0) (hw _ (List.mem_of_getElem? (i := 1) rfl)) (hw _ (List.mem_of_getElem? (i := 2) rfl)) (hw _ (List.mem_of_getElem? (i := 3) rfl)) (hw _ (List.mem_of_getElem? (i := 4) rfl)) (by decide) (lenOf pd1 rfl) at_78 (m1 hw _ _) rfl rfl (by decide) (by decide) (by decide) (by decide)) ?_
    rw [← es1]
    refine Ends.st (b := (83, [_, _, _, _, _, _, _, _, _, _, _, _, _, _, _, _, _, _, _, _], _, _, 0, 0)) (s_istore at_81 rfl) ?_
    refine Ends.st (b := (85, _, _, _, 0, 0)) (s_iload at_83 rfl) ?_
    refine Ends.st (b := (87, _, _, _, 0, 0)) (s_iload at_85 rfl) ?_
    refine Ends.st (b := (90, _, [_], _, 0, 0)) (s_callS (W := 0) (hw _ (List.mem_of_getElem? (i := 5) rfl)) (hw _ (List.mem_of_getElem? (i := 6) rfl)) (hw _ (List.mem_of_getElem? (i := 3) rfl)) (hw _ (List.mem_of_getElem? (i := 7) rfl)) (by decide) (lenOf pd2 rfl) at_87 (m2 hw _ _) rfl rfl (by decide) (by decide) (by decide) (by decide)) ?_
    rw [← es2]
    refine Ends.st (b := (92, [_, _, _, _, _, _, _, _, _, _, _, _, _, _, _, _, _, _, _, _], _, _, 0, 0)) (s_istore at_90 rfl) ?_
    refine Ends.st (b := (95, _, _, [.inl (_, [_, _])], 1, 2)) (s_new (cid := 0) (j := 0) (vs := [.null, .int 0]) (hw _ (List.mem_of_getElem? (i := 8) rfl)) (hw _ (List.mem_of_getElem? (i := 9) rfl)) (hw _ (List.mem_of_getElem? (i := 10) rfl)) (kok0 hw) ⟨⟨(.array .int), by decide, rfl⟩, ⟨⟨.int, by decide, rfl⟩, trivial⟩⟩ at_92 rfl (by decide) (by decide) rfl) ?_
    refine Ends.st (b := (96, _, _, _, 1, 2)) (s_dup at_95 rfl) ?_
    refine Ends.st (b := (99, _, [_], _, 2, 6)) (s_callI (W := 1) rfl (hw _ (List.mem_of_getElem? (i := 11) rfl)) (hw _ (List.mem_of_getElem? (i := 12) rfl)) (hw _ (List.mem_of_getElem? (i := 10) rfl)) (hw _ (List.mem_of_getElem? (i := 13) rfl)) (by decide) (lenOf pd3 rfl) at_96 (m3 hw) rfl rfl (by decide) (by decide) (by decide) (by decide)) ?_
    refine Ends.st (b := (101, [_, _, _, _, _, _, _, _, _, _, _, _, _, _, _, _, _, _, _, _], _, _, 2, 6)) (s_astore at_99 rfl rfl) ?_
    exact hE
set_option maxRecDepth 65536 in
set_option maxHeartbeats 40000000 in
theorem comes_1 {Post : Tables → Env → Array Value → State → Outcome → State → Prop} (hpost : ∀ tb e args s v u, (limb_1_1.after args s (.returned v) u = true ∧ limb_1_2.after args s (.returned v) u = true ∧ True) → FrameEnd s (.returned v) u (Jvm.fieldLocs frame_1_writes args s ++ Jvm.arrayLocs frame_1_arrays args s ++ Jvm.staticLocs frame_1_statics s) 16 128 → Post tb e args s (.returned v) u) :
    ArmFor flags0 classFile x code maxLocals ret World_1 tables_1 room_1 Calls_1 rest_1 Pre_1 Post := by
  intro l hfl _ _ p e ha hc hk s m args below hf hA hF happ hP
  obtain ⟨hcalls, hrest, hpre⟩ := hP
  obtain ⟨-, -, -, hnamed, -, -, -, hat⟩ := (Spec.applies_iff hf).mp happ
  obtain ⟨hg, hn⟩ := and_e (Cond.before_iff.mp (show (Jvm.Cond.and given_1 narrow_1).before args s = true from hpre))
  obtain ⟨g0, gg1⟩ := and_e hg
  obtain ⟨g1, gg2⟩ := and_e gg1
  obtain ⟨g2, gg3⟩ := and_e gg2
  obtain ⟨g3, gg4⟩ := and_e gg3
  obtain ⟨g4, gg5⟩ := and_e gg4
  obtain ⟨g5, gg6⟩ := and_e gg5
  obtain ⟨w0, w1, w2, w3, w4, w5, rfl⟩ : ∃ w0 w1 w2 w3 w4 w5 : Value, args = #[w0, w1, w2, w3, w4, w5] := by
    have hs : args.size = 6 := by simpa [Cond.value, given_1] using g0
    obtain ⟨L⟩ := args
    match L, hs with
    | [w0, w1, w2, w3, w4, w5], _ => exact ⟨w0, w1, w2, w3, w4, w5, rfl⟩
  have hw := fun d (hd : d ∈ tables_1) => atoms_spec (ws := Jvm.Cond.code x code maxLocals ret :: tables_1) hat d (List.mem_cons_of_mem _ hd)
  obtain ⟨i0, ei0⟩ := is_v g1
  obtain rfl : w0 = (.int i0) := Option.some.inj ei0
  obtain ⟨i1, ei1⟩ := is_v g2
  obtain rfl : w1 = (.int i1) := Option.some.inj ei1
  obtain ⟨i2, ei2⟩ := is_v g3
  obtain rfl : w2 = (.int i2) := Option.some.inj ei2
  obtain ⟨i3, ei3⟩ := is_v g4
  obtain rfl : w3 = (.int i3) := Option.some.inj ei3
  obtain ⟨i4, ei4⟩ := is_v g5
  obtain rfl : w4 = (.int i4) := Option.some.inj ei4
  obtain ⟨i5, ei5⟩ := is_v gg6
  obtain rfl : w5 = (.int i5) := Option.some.inj ei5
  obtain ⟨A2, hM⟩ := law_ok (l := l) hw (ρ := (fun k => s.heap.size + k, fun _ => 0)) i0 i1 i2 i3 i4 i5
  obtain ⟨n, o, h1, h2, h3, v', L, rfl, ⟨rfl, N, -⟩, hq⟩ := hM s.heap ⟨⟨rfl, fun k _ => rfl, fun j k h => Nat.add_lt_add_left h _⟩, fun k c h => by simp at h⟩ p e ha hc hk s m _ below hf ((Spec.applies_iff_loose hf).mp happ).1 ⟨rfl, State.Warmed39.refl s, rfl⟩ trivial
  refine ⟨n, _, h1, h2, h3, hpost _ _ _ _ _ _ ⟨Cond.after_iff.mpr rfl, Cond.after_iff.mpr (eq_i res_at (Term.int_eval (1)) rfl), trivial⟩ ⟨hq.1, hq.2.1, (hq.2.2.sift fun y hy => Or.inr (N y hy)).mono (by decide) (by decide)⟩⟩
theorem main_1_1 : Claimed_1_1 := comes_1 fun _ _ _ _ _ _ h hF => ⟨h.1, hF⟩
theorem main_1_2 : Claimed_1_2 := comes_1 fun _ _ _ _ _ _ h hF => ⟨h.2.1, hF⟩
end Jvm.Pilot.@@N@@
namespace Jvm.Pilot.@@N@@
open Jvm Jvm.ClassFile Sem Op Lib Jvm.Free Jvm.Stand Jvm.Pilot.@@N@@.Jvm.D
/-! MADE BY PROGRAM (witnessworld.py) out of the Statement's table words and the real class files: 10 classes; the members and pool entries that the words name. The judged class is class 1, her method 2. -/
namespace start1
open Jvm.ClassFile
def u (s : String) : CpInfo := .utf8 (stringToUtf16 s)
/-- a pool by its gaps: so many unusable entries, then the entry; so many at the end -/
def gap : Nat → List CpInfo → List CpInfo
  | 0, r => r
  | n + 1, r => .unusable :: gap n r
def poolList (es : List (Nat × CpInfo)) (last : Nat) : List CpInfo := es.foldr (fun e r => gap e.1 (e.2 :: r)) (gap last [])
def pool (es : List (Nat × CpInfo)) (last : Nat) : Array CpInfo := ⟨poolList es last⟩
def fileOf (pool : Array CpInfo) (this : Nat) (attrs : Array Attribute := #[]) (ms : Array MethodInfo := #[]) (fl : Nat := 33) (sup : Nat := 0) (ifs : Array Nat := #[]) (fds : Array FieldInfo := #[]) : ClassFile where
  minorVersion := 0
  majorVersion := 65
  constantPool := pool
  accessFlags := fl
  thisClass := this
  superClass := sup
  interfaces := ifs
  fields := fds
  methods := ms
  attributes := attrs
def plain (name : String) (sup : Option ClassId) : Class where
  name := name
  kind := .ordinary
  loader := none
  accessFlags := 33
  super := sup
  interfaces := #[]
  cf := none
  fields := #[]
  methods := #[]
  instanceTypes := #[]
  staticTypes := #[]
  resolved := #[]
  callSites := []
  init := .initialized
  statics := none
  mirror := none

def pool0 : Array CpInfo := pool [(5, u "<init>"), (0, u "()V"), (1, .class_ 10), (1, u "java/lang/Object")] 113

def k0c0 : Code := { maxStack := 0, maxLocals := 1, code := object_method_1_code, exceptionTable := #[], attributes := #[] }
def k0m0 : Method := { name := "<init>", desc := "()V", sig := { parameters := [], returnType := none }, accessFlags := 1, code := some k0c0 }
/-- java/lang/Object -/
def k0 : Class := { plain "java/lang/Object" none with
  accessFlags := 33
  interfaces := #[]
  cf := some (fileOf pool0 8 #[] #[{ accessFlags := 1, nameIndex := 5, descriptorIndex := 6, attributes := #[] }] 33 0 #[] #[])
  fields := #[]
  methods := #[k0m0]
  instanceTypes := #[]
  staticTypes := #[]
  resolved := Array.replicate 124 none
  statics := none }

def pool1 : Array CpInfo := pool [(2, .class_ 4), (0, .nameAndType 5 6), (0, u "java/lang/Object"), (0, u "<init>"), (0, u "()V"), (0, .integer 2147483647), (0, .methodref 9 10), (0, .class_ 11), (0, .nameAndType 12 13), (0, u "java/lang/Math"), (0, u "min"), (0, u "(II)I"), (0, .methodref 9 15), (0, .nameAndType 16 13), (0, u "max"), (0, .class_ 18), (0, u "com/example/ontology_to_datalog/ontologytodatalog/datalog/IntList"), (0, .methodref 17 3), (0, .methodref 17 21), (0, .nameAndType 22 23), (0, u "add"), (0, u "(I)V"), (0, .methodref 25 26), (0, .class_ 27), (0, .nameAndType 28 29), (0, u "com/example/ontology_to_datalog/ontologytodatalog/datalog/IntListFirstAtLeastPinLaw"), (0, u "below"), (0, u "(ZII)I"), (0, .methodref 17 31), (0, .nameAndType 32 33), (0, u "firstAtLeast"), (0, u "(I)I"), (3, u "law"), (0, u "(IIIIII)Z")] 2

def k1m0 : Method := { name := "<init>", desc := "()V", sig := { parameters := [], returnType := none }, accessFlags := 1, code := none }
def k1c1 : Code := { maxStack := 2, maxLocals := 3, code := method_2_code, exceptionTable := #[], attributes := #[] }
def k1m1 : Method := { name := "below", desc := "(ZII)I", sig := { parameters := [.boolean, .int, .int], returnType := some .int }, accessFlags := 10, code := some k1c1 }
def k1c2 : Code := { maxStack := 4, maxLocals := 20, code := code, exceptionTable := #[], attributes := #[] }
def k1m2 : Method := { name := "law", desc := "(IIIIII)Z", sig := { parameters := [.int, .int, .int, .int, .int, .int], returnType := some .boolean }, accessFlags := 9, code := some k1c2 }
/-- com/example/ontology_to_datalog/ontologytodatalog/datalog/IntListFirstAtLeastPinLaw -/
def k1 : Class := { plain "com/example/ontology_to_datalog/ontologytodatalog/datalog/IntListFirstAtLeastPinLaw" (some 0) with
  accessFlags := 49
  interfaces := #[]
  cf := some (fileOf pool1 25 #[] #[{ accessFlags := 1, nameIndex := 5, descriptorIndex := 6, attributes := #[] }, { accessFlags := 10, nameIndex := 28, descriptorIndex := 29, attributes := #[] }, { accessFlags := 9, nameIndex := 37, descriptorIndex := 38, attributes := #[] }] 49 2 #[] #[])
  fields := #[]
  methods := #[k1m0, k1m1, k1m2]
  instanceTypes := #[]
  staticTypes := #[]
  resolved := Array.replicate 41 none
  statics := none }

def pool2 : Array CpInfo := pool [(1, .class_ 2), (0, u "java/lang/Math"), (1, .class_ 6), (1, u "java/lang/Object"), (0, u "<init>"), (0, u "()V"), (89, .class_ 100), (1, u "java/lang/Math$RandomNumberGeneratorHolder"), (71, u "negativeZeroFloatBits"), (0, u "J"), (2, u "negativeZeroDoubleBits"), (21, u "max"), (2, u "min"), (43, u "$assertionsDisabled"), (0, u "Z"), (88, u "(II)I"), (2, u "twoToTheDoubleScaleDown"), (0, u "D"), (4, u "twoToTheDoubleScaleUp"), (9, u "E"), (3, u "PI"), (2, u "TAU"), (2, u "DEGREES_TO_RADIANS"), (0, u "RADIANS_TO_DEGREES")] 94

def k2m0 : Method := { name := "<init>", desc := "()V", sig := { parameters := [], returnType := none }, accessFlags := 2, code := none }
def k2c1 : Code := { maxStack := 2, maxLocals := 2, code := jdk_29_method_65_code, exceptionTable := #[], attributes := #[] }
def k2m1 : Method := { name := "max", desc := "(II)I", sig := { parameters := [.int, .int], returnType := some .int }, accessFlags := 9, code := some k2c1 }
def k2c2 : Code := { maxStack := 2, maxLocals := 2, code := jdk_29_method_69_code, exceptionTable := #[], attributes := #[] }
def k2m2 : Method := { name := "min", desc := "(II)I", sig := { parameters := [.int, .int], returnType := some .int }, accessFlags := 9, code := some k2c2 }
/-- java/lang/Math -/
def k2 : Class := { plain "java/lang/Math" (some 0) with
  accessFlags := 49
  interfaces := #[]
  cf := some (fileOf pool2 1 #[.nestMembers #[98]] #[{ accessFlags := 2, nameIndex := 7, descriptorIndex := 8, attributes := #[] }, { accessFlags := 9, nameIndex := 198, descriptorIndex := 335, attributes := #[] }, { accessFlags := 9, nameIndex := 201, descriptorIndex := 335, attributes := #[] }] 49 4 #[] #[{ accessFlags := 25, nameIndex := 354, descriptorIndex := 339, attributes := #[] }, { accessFlags := 25, nameIndex := 358, descriptorIndex := 339, attributes := #[] }, { accessFlags := 25, nameIndex := 361, descriptorIndex := 339, attributes := #[] }, { accessFlags := 26, nameIndex := 364, descriptorIndex := 339, attributes := #[] }, { accessFlags := 26, nameIndex := 365, descriptorIndex := 339, attributes := #[] }, { accessFlags := 26, nameIndex := 172, descriptorIndex := 173, attributes := #[] }, { accessFlags := 26, nameIndex := 176, descriptorIndex := 173, attributes := #[] }, { accessFlags := 8, nameIndex := 344, descriptorIndex := 339, attributes := #[] }, { accessFlags := 8, nameIndex := 338, descriptorIndex := 339, attributes := #[] }, { accessFlags := 4120, nameIndex := 245, descriptorIndex := 246, attributes := #[] }])
  fields := #[{ name := "E", type := .double, accessFlags := 25, slot := 0, constantValue := 0 }, { name := "PI", type := .double, accessFlags := 25, slot := 1, constantValue := 0 }, { name := "TAU", type := .double, accessFlags := 25, slot := 2, constantValue := 0 }, { name := "DEGREES_TO_RADIANS", type := .double, accessFlags := 26, slot := 3, constantValue := 0 }, { name := "RADIANS_TO_DEGREES", type := .double, accessFlags := 26, slot := 4, constantValue := 0 }, { name := "negativeZeroFloatBits", type := .long, accessFlags := 26, slot := 5, constantValue := 0 }, { name := "negativeZeroDoubleBits", type := .long, accessFlags := 26, slot := 6, constantValue := 0 }, { name := "twoToTheDoubleScaleUp", type := .double, accessFlags := 8, slot := 7, constantValue := 0 }, { name := "twoToTheDoubleScaleDown", type := .double, accessFlags := 8, slot := 8, constantValue := 0 }, { name := "$assertionsDisabled", type := .boolean, accessFlags := 4120, slot := 9, constantValue := 0 }]
  methods := #[k2m0, k2m1, k2m2]
  instanceTypes := #[]
  staticTypes := #[.double, .double, .double, .double, .double, .long, .long, .double, .double, .boolean]
  resolved := Array.replicate 460 none
  statics := none }

def pool3 : Array CpInfo := pool [(1, .methodref 2 3), (0, .class_ 4), (0, .nameAndType 5 6), (0, u "java/lang/Object"), (0, u "<init>"), (0, u "()V"), (0, .fieldref 8 9), (0, .class_ 10), (0, .nameAndType 11 12), (0, u "com/example/ontology_to_datalog/ontologytodatalog/datalog/IntList"), (0, u "values"), (0, u "[I"), (0, .fieldref 8 14), (0, .nameAndType 15 16), (0, u "size"), (0, u "I"), (9, u "EMPTY"), (0, u "Lcom/example/ontology_to_datalog/ontologytodatalog/datalog/IntList;"), (2, u "add"), (0, u "(I)V"), (2, u "(I)I"), (1, u "firstAtLeast")] 3

def k3c0 : Code := { maxStack := 2, maxLocals := 1, code := prog_8_method_1_code, exceptionTable := #[], attributes := #[] }
def k3m0 : Method := { name := "<init>", desc := "()V", sig := { parameters := [], returnType := none }, accessFlags := 0, code := some k3c0 }
def k3c1 : Code := { maxStack := 5, maxLocals := 2, code := prog_8_method_2_code, exceptionTable := #[], attributes := #[] }
def k3m1 : Method := { name := "add", desc := "(I)V", sig := { parameters := [.int], returnType := none }, accessFlags := 0, code := some k3c1 }
def k3c2 : Code := { maxStack := 2, maxLocals := 5, code := prog_8_method_5_code, exceptionTable := #[], attributes := #[] }
def k3m2 : Method := { name := "firstAtLeast", desc := "(I)I", sig := { parameters := [.int], returnType := some .int }, accessFlags := 0, code := some k3c2 }
/-- com/example/ontology_to_datalog/ontologytodatalog/datalog/IntList -/
def k3 : Class := { plain "com/example/ontology_to_datalog/ontologytodatalog/datalog/IntList" (some 0) with
  accessFlags := 32
  interfaces := #[]
  cf := some (fileOf pool3 8 #[] #[{ accessFlags := 0, nameIndex := 5, descriptorIndex := 6, attributes := #[] }, { accessFlags := 0, nameIndex := 30, descriptorIndex := 31, attributes := #[] }, { accessFlags := 0, nameIndex := 36, descriptorIndex := 34, attributes := #[] }] 32 2 #[] #[{ accessFlags := 24, nameIndex := 26, descriptorIndex := 27, attributes := #[] }, { accessFlags := 2, nameIndex := 11, descriptorIndex := 12, attributes := #[] }, { accessFlags := 2, nameIndex := 15, descriptorIndex := 16, attributes := #[] }])
  fields := #[{ name := "EMPTY", type := (.object "com/example/ontology_to_datalog/ontologytodatalog/datalog/IntList"), accessFlags := 24, slot := 0, constantValue := 0 }, { name := "values", type := (.array .int), accessFlags := 2, slot := 0, constantValue := 0 }, { name := "size", type := .int, accessFlags := 2, slot := 1, constantValue := 0 }]
  methods := #[k3m0, k3m1, k3m2]
  instanceTypes := #[(.array .int), .int]
  staticTypes := #[(.object "com/example/ontology_to_datalog/ontologytodatalog/datalog/IntList")]
  resolved := Array.replicate 40 none
  statics := none }

def pool4 : Array CpInfo := pool [(1, u "java/lang/Cloneable"), (0, .class_ 1), (0, u "java/lang/Object"), (0, .class_ 3)] 3

/-- java/lang/Cloneable -/
def k4 : Class := { plain "java/lang/Cloneable" (some 0) with
  accessFlags := 1537
  interfaces := #[]
  cf := some (fileOf pool4 2 #[] #[] 1537 4 #[] #[])
  fields := #[]
  methods := #[]
  instanceTypes := #[]
  staticTypes := #[]
  resolved := Array.replicate 8 none
  statics := none }

def pool5 : Array CpInfo := pool [(1, u "java/io/Serializable"), (0, .class_ 1), (0, u "java/lang/Object"), (0, .class_ 3)] 3

/-- java/io/Serializable -/
def k5 : Class := { plain "java/io/Serializable" (some 0) with
  accessFlags := 1537
  interfaces := #[]
  cf := some (fileOf pool5 2 #[] #[] 1537 4 #[] #[])
  fields := #[]
  methods := #[]
  instanceTypes := #[]
  staticTypes := #[]
  resolved := Array.replicate 8 none
  statics := none }

/-- the primitive byte -/
def k6 : Class := { plain "byte" none with kind := .primitive 'B', accessFlags := 0x411 }
/-- [B -/
def k7 : Class := { plain "[B" (some 0) with kind := .array 6 .byte, interfaces := #[4, 5], accessFlags := 1041 }

/-- the primitive int -/
def k8 : Class := { plain "int" none with kind := .primitive 'I', accessFlags := 0x411 }
/-- [I -/
def k9 : Class := { plain "[I" (some 0) with kind := .array 8 .int, interfaces := #[4, 5], accessFlags := 1041 }

def heap : Heap := #[]
def classes : Array Class := #[k0, k1, k2, k3, k4, k5, k6, k7, k8, k9]
def interned : List (Array UInt16 × Addr) := []
def slotsUsed : Nat := 0
def theMethod : MethodId := ⟨1, 2⟩
def args0 : Array Value := #[.int 70, .int 3, .int 5, .int 9, .int 1, .int 4]
def aboutOver (below : List Frame) : State where
  vm := { classes := classes, interned := interned.toArray }
  heap := heap
  slotsUsed := slotsUsed
  threads := #[{ frames := .invoking theMethod args0 :: below }]
def below0 : List Frame := [.native { method := ⟨0, 0⟩, args := #[] }]
def about1 : State := aboutOver below0
def p0 : Program := .bare "" "" ""
def e0 : Env := launch0.env 0 0 0
theorem w_frames : about1.frames = Frame.invoking theMethod args0 :: below0 := rfl
set_option maxRecDepth 65536 in
theorem w_args : argsFit about1.vm theMethod args0 = true := by decide +kernel
set_option maxRecDepth 65536 in
theorem w_heap : heapFits about1 = true := by decide +kernel
set_option maxRecDepth 65536 in
theorem w_runnable : about1.curStatus? = some .runnable := by decide +kernel
set_option maxRecDepth 65536 in
theorem w_alone : about1.alone = true := by decide +kernel
set_option maxRecDepth 65536 in
theorem w_named : about1.methodNamed? x = some theMethod := by decide +kernel
set_option maxRecDepth 65536 in
theorem w_hears : about1.hears theMethod below0 = true := by decide +kernel
set_option maxRecDepth 65536 in
theorem w_ripe : about1.ripe theMethod args0 below0 = true := by decide +kernel
theorem w_running : about1.status = .running := rfl
set_option maxRecDepth 65536 in
theorem w_room : about1.hasRoom e0.platform room_1 = true :=
  launch0.hasRoom_least _ room_1 (by decide +kernel) (by decide +kernel) (by decide +kernel) (by decide +kernel) (by decide +kernel) (by decide +kernel)
theorem allAtoms_all (ts : List Jvm.Cond) (a : Array Jvm.Value) (st : Jvm.State) : (allAtoms ts).before a st = ts.all (fun c => c.before a st) := by
  induction ts with
  | nil => rfl
  | cons c t ih =>
    show (Jvm.Cond.and c (allAtoms t)).before a st = _
    rw [Jvm.Cond.before_and, ih, List.all_cons]
def words1 : List Jvm.Cond := Jvm.Cond.code x code maxLocals ret :: tables_1
/-- a 'code' word, met by the world's own term for the bytes: nothing is compared byte by byte -/
theorem code_word {y : MethodName} {bytes : ByteArray} {mx : Nat} {rt : Option FieldType} {a : Array Value} {s : State} {m : MethodId} {meth : Method} {c : Code} (h1 : s.methodNamed? y = some m) (h2 : s.vm.method? m = some meth) (h3 : meth.code = some c) (h4 : c.code = bytes)
    (h5 : (c.maxLocals == mx && c.exceptionTable.isEmpty && decide (c.maxStack ≤ mostOperands) && decide (meth.sig.returnType = rt) && !meth.locks && decide (parseMethodDescriptor y.desc = some meth.sig)) = true) : (Jvm.Cond.code y bytes mx rt).before a s = true := by
  simp only [Bool.and_eq_true, beq_iff_eq, Bool.not_eq_true', decide_eq_true_eq] at h5
  obtain ⟨⟨⟨⟨⟨g1, g2⟩, g3⟩, g4⟩, g5⟩, g6⟩ := h5
  simp [Cond.before, Cond.holds, Cond.value, h1, h2, h3, h4, g1, g2, g3, g4, g5, g6]
def isCode : Jvm.Cond → Bool
  | .code _ _ _ _ => true
  | _ => false
theorem all_split {L : List Jvm.Cond} {P : Jvm.Cond → Bool} (h1 : L.all (fun c => isCode c || P c) = true) (h2 : ∀ c ∈ L.filter isCode, P c = true) : L.all P = true := by
  refine List.all_eq_true.mpr fun c hc => ?_
  have h := List.all_eq_true.mp h1 c hc
  rcases Bool.eq_false_or_eq_true (isCode c) with hi | hi
  · exact h2 c (List.mem_filter.mpr ⟨hc, hi⟩)
  · simpa [hi] using h
set_option maxRecDepth 65536 in
theorem w_c0 : (Jvm.Cond.code x code maxLocals ret).before args0 about1 = true := code_word (m := ⟨1, 2⟩) (meth := k1m2) (c := k1c2) (by decide +kernel) rfl rfl rfl (by decide +kernel)
set_option maxRecDepth 65536 in
theorem w_c1 : (Jvm.Cond.code ({ cls := "java/lang/Math", name := "min", desc := "(II)I" } : Jvm.MethodName) jdk_29_method_69_code (2 : Nat) (Option.some Jvm.ClassFile.FieldType.int)).before args0 about1 = true := code_word (m := ⟨2, 2⟩) (meth := k2m2) (c := k2c2) (by decide +kernel) rfl rfl rfl (by decide +kernel)
set_option maxRecDepth 65536 in
theorem w_c2 : (Jvm.Cond.code ({ cls := "java/lang/Math", name := "max", desc := "(II)I" } : Jvm.MethodName) jdk_29_method_65_code (2 : Nat) (Option.some Jvm.ClassFile.FieldType.int)).before args0 about1 = true := code_word (m := ⟨2, 1⟩) (meth := k2m1) (c := k2c1) (by decide +kernel) rfl rfl rfl (by decide +kernel)
set_option maxRecDepth 65536 in
theorem w_c3 : (Jvm.Cond.code ({ cls := "com/example/ontology_to_datalog/ontologytodatalog/datalog/IntList", name := "<init>", desc := "()V" } : Jvm.MethodName) prog_8_method_1_code (1 : Nat) (Option.none : Option Jvm.ClassFile.FieldType)).before args0 about1 = true := code_word (m := ⟨3, 0⟩) (meth := k3m0) (c := k3c0) (by decide +kernel) rfl rfl rfl (by decide +kernel)
set_option maxRecDepth 65536 in
theorem w_c4 : (Jvm.Cond.code ({ cls := "java/lang/Object", name := "<init>", desc := "()V" } : Jvm.MethodName) object_method_1_code (1 : Nat) (Option.none : Option Jvm.ClassFile.FieldType)).before args0 about1 = true := code_word (m := ⟨0, 0⟩) (meth := k0m0) (c := k0c0) (by decide +kernel) rfl rfl rfl (by decide +kernel)
set_option maxRecDepth 65536 in
theorem w_c5 : (Jvm.Cond.code ({ cls := "com/example/ontology_to_datalog/ontologytodatalog/datalog/IntListFirstAtLeastPinLaw", name := "below", desc := "(ZII)I" } : Jvm.MethodName) method_2_code (3 : Nat) (Option.some Jvm.ClassFile.FieldType.int)).before args0 about1 = true := code_word (m := ⟨1, 1⟩) (meth := k1m1) (c := k1c1) (by decide +kernel) rfl rfl rfl (by decide +kernel)
set_option maxRecDepth 65536 in
theorem w_c6 : (Jvm.Cond.code ({ cls := "com/example/ontology_to_datalog/ontologytodatalog/datalog/IntList", name := "firstAtLeast", desc := "(I)I" } : Jvm.MethodName) prog_8_method_5_code (5 : Nat) (Option.some Jvm.ClassFile.FieldType.int)).before args0 about1 = true := code_word (m := ⟨3, 2⟩) (meth := k3m2) (c := k3c2) (by decide +kernel) rfl rfl rfl (by decide +kernel)
set_option maxRecDepth 65536 in
theorem w_c7 : (Jvm.Cond.code ({ cls := "com/example/ontology_to_datalog/ontologytodatalog/datalog/IntList", name := "add", desc := "(I)V" } : Jvm.MethodName) prog_8_method_2_code (2 : Nat) (Option.none : Option Jvm.ClassFile.FieldType)).before args0 about1 = true := code_word (m := ⟨3, 1⟩) (meth := k3m1) (c := k3c1) (by decide +kernel) rfl rfl rfl (by decide +kernel)
def codes1 : List Jvm.Cond := [Jvm.Cond.code x code maxLocals ret, Jvm.Cond.code ({ cls := "java/lang/Math", name := "min", desc := "(II)I" } : Jvm.MethodName) jdk_29_method_69_code (2 : Nat) (Option.some Jvm.ClassFile.FieldType.int), Jvm.Cond.code ({ cls := "java/lang/Math", name := "max", desc := "(II)I" } : Jvm.MethodName) jdk_29_method_65_code (2 : Nat) (Option.some Jvm.ClassFile.FieldType.int), Jvm.Cond.code ({ cls := "com/example/ontology_to_datalog/ontologytodatalog/datalog/IntList", name := "<init>", desc := "()V" } : Jvm.MethodName) prog_8_method_1_code (1 : Nat) (Option.none : Option Jvm.ClassFile.FieldType), Jvm.Cond.code ({ cls := "java/lang/Object", name := "<init>", desc := "()V" } : Jvm.MethodName) object_method_1_code (1 : Nat) (Option.none : Option Jvm.ClassFile.FieldType), Jvm.Cond.code ({ cls := "com/example/ontology_to_datalog/ontologytodatalog/datalog/IntListFirstAtLeastPinLaw", name := "below", desc := "(ZII)I" } : Jvm.MethodName) method_2_code (3 : Nat) (Option.some Jvm.ClassFile.FieldType.int), Jvm.Cond.code ({ cls := "com/example/ontology_to_datalog/ontologytodatalog/datalog/IntList", name := "firstAtLeast", desc := "(I)I" } : Jvm.MethodName) prog_8_method_5_code (5 : Nat) (Option.some Jvm.ClassFile.FieldType.int), Jvm.Cond.code ({ cls := "com/example/ontology_to_datalog/ontologytodatalog/datalog/IntList", name := "add", desc := "(I)V" } : Jvm.MethodName) prog_8_method_2_code (2 : Nat) (Option.none : Option Jvm.ClassFile.FieldType)]
set_option maxRecDepth 65536 in
theorem codes_eq : words1.filter isCode = codes1 := rfl
theorem w_codes : ∀ c ∈ words1.filter isCode, c.before args0 about1 = true := by
  rw [codes_eq]
  intro c hc
  simp only [codes1, List.mem_cons, List.not_mem_nil, or_false] at hc
  rcases hc with rfl | rfl | rfl | rfl | rfl | rfl | rfl | rfl
  · exact w_c0
  · exact w_c1
  · exact w_c2
  · exact w_c3
  · exact w_c4
  · exact w_c5
  · exact w_c6
  · exact w_c7
set_option maxRecDepth 65536 in
theorem w_t1 : (words1.take 24).all (fun c => isCode c || c.before args0 about1) = true := by decide +kernel
set_option maxRecDepth 65536 in
theorem w_t2 : (words1.drop 24).all (fun c => isCode c || c.before args0 about1) = true := by decide +kernel
theorem w_tables : (allAtoms (Jvm.Cond.code x code maxLocals ret :: tables_1)).before args0 about1 = true := by
  rw [allAtoms_all]
  show words1.all (fun c => c.before args0 about1) = true
  refine all_split ?_ w_codes
  rw [← List.take_append_drop 24 words1, List.all_append, w_t1, w_t2]
  rfl
set_option maxRecDepth 65536 in
theorem w_case : (Jvm.Cond.and given_1 narrow_1).before args0 about1 = true := by decide +kernel
theorem w_applies : (headSpec (Jvm.Cond.code x code maxLocals ret :: tables_1) room_1).applies x e0.platform about1 = true :=
  (Spec.applies_iff w_frames).mpr ⟨w_running, w_runnable, w_alone, w_named, w_hears, w_ripe, w_room, w_tables⟩
theorem atStart : AtStart classFile x code maxLocals ret World_1 tables_1 room_1 Calls_1 rest_1 Pre_1 launch0 p0 e0 about1 theMethod args0 below0 :=
  ⟨lists_1, trivial, launch0.admits_env _ _ _, launch0.least_env, fairChoices_fair.cas, fairChoices_fair.clock, w_frames, w_args, w_heap, w_applies, trivial, trivial, w_case⟩
end start1
theorem witness_1 : WitnessClaimed_1 := ⟨start1.p0, start1.e0, start1.about1, start1.theMethod, start1.args0, start1.below0, start1.atStart⟩
end Jvm.Pilot.@@N@@
