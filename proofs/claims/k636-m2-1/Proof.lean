import JvmDerived
import JvmDerived.Pilot.@@N@@Statement
import JvmDerived.Pilot.@@N@@Code
set_option linter.unusedVariables false
set_option linter.unusedSimpArgs false
set_option maxHeartbeats 4000000
namespace Jvm.Pilot.@@N@@
open Jvm Jvm.ClassFile Sem Op Lib Jvm.Free Jvm.Stand Jvm.LawKit Jvm.RoadKit Bundle Jvm.Pilot.@@N@@.Jvm.D
/-! LAYER: an abstract walk over own objects (printed by wip/layer/mklayer.py) -/
abbrev oC : Type := (Nat × List Value) ⊕ (FieldType × List Value)
abbrev oH : Type := List oC
abbrev oK : Type := Nat → String × List (String × String × String)
abbrev oS : Type := Nat × List Slot × List Value × oH × Nat × Nat
/-- where the own objects lie, and others (written as return addresses, which no code here has) -/
abbrev oM : Type := (Nat → Nat) × (Nat → Nat)
def ov (ρ : oM) : Value → Value
  | .ref k => .ref (ρ.1 k)
  | .retAddr k => .ref (ρ.2 k)
  | v => v
def osl (ρ : oM) : Slot → Slot
  | .val v => .val (ov ρ v)
  | x => x
theorem ov_cat (ρ : oM) (v : Value) : (ov ρ v).category = v.category := by cases v <;> rfl
theorem ov_dflt (ρ : oM) (t : FieldType) : ov ρ (defaultValue t) = defaultValue t := by cases t <;> rfl
/-- what an own cell is, in the heap -/
def oR (Z : State) (K : oK) (ρ : oM) (h : Heap) (a : Addr) (c : oC) : Prop := match c with
  | .inl o => Exa Z h a (K o.1).1 ∧ ∀ (i : Nat) (f : String × String × String) (v : Value), (K o.1).2[i]? = some f → o.2[i]? = some v → Fld Z h a f.1 f.2.1 f.2.2 (ov ρ v)
  | .inr q => (q.2.length < 2 ^ 31 ∧ ∀ w ∈ q.2, fits q.1 (ov ρ w) = true) ∧ ∃ cl : Cell, Arr Z h a cl q.1 ∧ cl.slots = (q.2.map (ov ρ)).toArray
def oRep (Z : State) (K : oK) (ρ : oM) (h : Heap) (A : oH) : Prop := (h.size = ρ.1 A.length ∧ (∀ k, A.length ≤ k → ρ.1 (k + 1) = ρ.1 k + 1) ∧ ∀ j k, j < k → ρ.1 j < ρ.1 k) ∧ ∀ (k : Nat) (c : oC), A[k]? = some c → oR Z K ρ h (ρ.1 k) c
theorem oR.ext {Z : State} {K : oK} {ρ : oM} {h h' : Heap} {a : Addr} {c : oC} (E : Ext h h') (H : oR Z K ρ h a c) : oR Z K ρ h' a c := by
  rcases c with o | q
  · exact ⟨H.1.ext E, fun i f v h1 h2 => (H.2 i f v h1 h2).ext E⟩
  · obtain ⟨h1, cl, h2, h3⟩ := H
    exact ⟨h1, cl, h2.ext E, h3⟩
theorem oR.other {Z : State} {K : oK} {ρ : oM} {h h' : Heap} {a b : Addr} {sl : Nat} {v : Value} {c : oC} (W : Wr h h' a sl v) (hne : b ≠ a) (H : oR Z K ρ h b c) : oR Z K ρ h' b c := by
  rcases c with o | q
  · exact ⟨H.1.wr W, fun i f w h1 h2 => (H.2 i f w h1 h2).other W (Or.inl hne)⟩
  · obtain ⟨h1, cl, h2, h3⟩ := H
    exact ⟨h1, cl, h2.other W hne, h3⟩
theorem oRep.ne {Z : State} {K : oK} {ρ : oM} {h : Heap} {A : oH} (H : oRep Z K ρ h A) {j k : Nat} (q : j ≠ k) : ρ.1 j ≠ ρ.1 k := by
  rcases Nat.lt_or_gt_of_ne q with q | q
  · exact Nat.ne_of_lt (H.1.2.2 _ _ q)
  · exact Nat.ne_of_gt (H.1.2.2 _ _ q)
theorem oRep.ge {Z : State} {K : oK} {ρ : oM} {h : Heap} {A : oH} (H : oRep Z K ρ h A) (k : Nat) : ρ.1 0 ≤ ρ.1 k := by
  rcases Nat.eq_zero_or_pos k with q | q
  · rw [q]; exact Nat.le_refl _
  · exact Nat.le_of_lt (H.1.2.2 _ _ q)
theorem oRep.push {Z : State} {K : oK} {ρ : oM} {h h' : Heap} {A : oH} {c : oC} (H : oRep Z K ρ h A) (E : Ext h h') (hs : h'.size = h.size + 1) (hc : oR Z K ρ h' h.size c) : oRep Z K ρ h' (A ++ [c]) := by
  refine ⟨⟨by rw [hs, H.1.1, List.length_append]; exact (H.1.2.1 _ (Nat.le_refl _)).symm, fun k hk => H.1.2.1 k (by rw [List.length_append] at hk; omega), H.1.2.2⟩, fun k d hd => ?_⟩
  rcases Nat.lt_trichotomy k A.length with q | q | q
  · rw [List.getElem?_append_left q] at hd
    exact (H.2 k d hd).ext E
  · subst q
    simp at hd
    subst hd
    rw [← H.1.1]; exact hc
  · rw [List.getElem?_eq_none (by simp; omega)] at hd; cases hd
theorem oRep.wr {Z : State} {K : oK} {ρ : oM} {h h' : Heap} {A : oH} {c : oC} {k sl : Nat} {v : Value} (H : oRep Z K ρ h A) (W : Wr h h' (ρ.1 k) sl v) (hc : oR Z K ρ h' (ρ.1 k) c) : oRep Z K ρ h' (A.set k c) := by
  refine ⟨⟨by rw [W.size, H.1.1, List.length_set], by rw [List.length_set]; exact H.1.2.1, H.1.2.2⟩, fun j d hd => ?_⟩
  by_cases q : j = k
  · subst q
    by_cases hj : j < A.length
    · rw [List.getElem?_set_self hj] at hd; cases hd; exact hc
    · rw [List.getElem?_eq_none (by simp; omega)] at hd; cases hd
  · rw [List.getElem?_set_ne (Ne.symm q)] at hd
    exact (H.2 j d hd).other W (H.ne q)
/-- the fields that a class lays, with their words -/
def oLaid (Z : State) (a0 : Array Value) (C : String) : List (String × String × String) → Prop
  | [] => True
  | f :: fs => (Laid Z a0 C f.1 f.2.1 f.2.2 ∧ ∃ t, parseFieldDescriptor f.2.2 = some t) ∧ oLaid Z a0 C fs
theorem oLaid.at {Z : State} {a0 : Array Value} {C : String} : ∀ {fs : List (String × String × String)}, oLaid Z a0 C fs → ∀ (i : Nat) (f : String × String × String), fs[i]? = some f → Laid Z a0 C f.1 f.2.1 f.2.2 ∧ ∃ t, parseFieldDescriptor f.2.2 = some t
  | [], _, i, f, h => by simp at h
  | g :: gs, H, 0, f, h => by simp at h; subst h; exact H.1
  | g :: gs, H, i + 1, f, h => oLaid.at H.2 i f (by simpa using h)
def oDistinct (fs : List (String × String × String)) : Prop := ∀ (i j : Nat) (f g : String × String × String), fs[i]? = some f → fs[j]? = some g → i ≠ j → f.2.1 ≠ g.2.1
theorem oDistinct.of {fs : List (String × String × String)} (h : (fs.map fun f => f.2.1).Nodup) : oDistinct fs := fun i j f g hi hj hne e => by
  have h1 : (fs.map fun f => f.2.1)[i]? = some f.2.1 := by simp [hi]
  have h2 : (fs.map fun f => f.2.1)[j]? = some g.2.1 := by simp [hj]
  obtain ⟨q1, e1⟩ := List.getElem?_eq_some_iff.mp h1
  obtain ⟨q2, e2⟩ := List.getElem?_eq_some_iff.mp h2
  have hp := List.pairwise_iff_getElem.mp h
  rcases Nat.lt_or_gt_of_ne hne with q | q
  · exact hp i j q1 q2 q (by rw [e1, e2, e])
  · exact hp j i q2 q1 q (by rw [e1, e2, e])
def oKOk (Z : State) (a0 : Array Value) (K : oK) (cid : Nat) : Prop := oLaid Z a0 (K cid).1 (K cid).2 ∧ oDistinct (K cid).2
def oDflt : List (String × String × String) → List Value → Prop
  | [], [] => True
  | f :: fs, v :: vs => (∃ t, parseFieldDescriptor f.2.2 = some t ∧ v = defaultValue t) ∧ oDflt fs vs
  | _, _ => False
theorem oDflt.at : ∀ {fs : List (String × String × String)} {vs : List Value}, oDflt fs vs → ∀ (i : Nat) (f : String × String × String) (v : Value), fs[i]? = some f → vs[i]? = some v → ∃ t, parseFieldDescriptor f.2.2 = some t ∧ v = defaultValue t
  | [], [], _, i, f, v, h, _ => by simp at h
  | [], w :: ws, H, _, _, _, _, _ => H.elim
  | g :: gs, [], H, _, _, _, _, _ => H.elim
  | g :: gs, w :: ws, H, 0, f, v, h, h' => by simp at h h'; subst h h'; exact H.1
  | g :: gs, w :: ws, H, i + 1, f, v, h, h' => oDflt.at H.2 i f v (by simpa using h) (by simpa using h')
/-! the local variables -/
def oAt (L : List Slot) (i : Nat) (x : Slot) : Option (List Slot) := if i < L.length then some (L.set i x) else none
def oSelf (L : List Slot) (i : Nat) (v : Value) : Option (List Slot) :=
  (oAt L i (.val v)).bind fun L =>
  if v.category = 2 then
    (L[i + 1]?).bind fun x => match x with
      | .val old => if old.category = 2 then (oAt L (i + 2) .unset).bind fun L => oAt L (i + 1) .second else oAt L (i + 1) .second
      | .unset => oAt L (i + 1) .second
      | .second => oAt L (i + 1) .second
  else some L
def oSt (L : List Slot) (i : Nat) (v : Value) : Option (List Slot) :=
  (L[i]?).bind fun x => match x with
    | .second => (oAt L (i - 1) .unset).bind fun L => oSelf L i v
    | .val old => if old.category = 2 then (oAt L (i + 1) .unset).bind fun L => oSelf L i v else oSelf L i v
    | .unset => oSelf L i v
theorem oget {ρ : oM} {L : List Slot} {k : Nat} {x : Slot} (h : L[k]? = some x) : (L.map (osl ρ)).toArray[k]? = some (osl ρ x) := by simp [h]
theorem oAt_ok {ρ : oM} {L L' : List Slot} {i : Nat} {x : Slot} (h : oAt L i x = some L') : setAt (L.map (osl ρ)).toArray i (osl ρ x) = some (L'.map (osl ρ)).toArray ∧ L'.length = L.length := by
  unfold oAt at h
  split at h
  · rename_i hi
    cases h
    refine ⟨?_, by simp⟩
    have hi' : i < (L.map (osl ρ)).toArray.size := by simpa using hi
    have e : setAt (L.map (osl ρ)).toArray i (osl ρ x) = some ((L.map (osl ρ)).toArray.setIfInBounds i (osl ρ x)) := if_pos hi'
    rw [e]; simp
  · cases h
theorem oSelf_eq {l : Array Slot} {i : Nat} {v : Value} : storeSelf l i v = ((setAt l i (.val v)).bind fun l => if v.category = 2 then (l[i + 1]?).bind fun x => match x with
      | .val old => if old.category = 2 then (setAt l (i + 2) .unset).bind fun l => setAt l (i + 1) .second else setAt l (i + 1) .second
      | .unset => setAt l (i + 1) .second
      | .second => setAt l (i + 1) .second
  else some l) := by
  show (setAt l i (.val v)).bind _ = _
  cases setAt l i (.val v) with
  | none => rfl
  | some l =>
    show (if v.category = 2 then _ else _) = (if v.category = 2 then _ else _)
    split
    · show (l[i + 1]?).bind _ = (l[i + 1]?).bind _
      cases l[i + 1]? with
      | none => rfl
      | some x => cases x <;> rfl
    · rfl
theorem oSelf_ok {ρ : oM} {L L' : List Slot} {i : Nat} {v : Value} (h : oSelf L i v = some L') : storeSelf (L.map (osl ρ)).toArray i (ov ρ v) = some (L'.map (osl ρ)).toArray ∧ L'.length = L.length := by
  rw [oSelf_eq]
  unfold oSelf at h
  obtain ⟨L1, h1, h⟩ := Option.bind_eq_some_iff.mp h
  have q1 := oAt_ok (ρ := ρ) h1
  have q1' : setAt (L.map (osl ρ)).toArray i (.val (ov ρ v)) = some (L1.map (osl ρ)).toArray := q1.1
  rw [q1', ov_cat]
  show (if v.category = 2 then _ else _) = _ ∧ _
  split at h
  · rename_i hc
    rw [if_pos hc]
    obtain ⟨x, h2, h⟩ := Option.bind_eq_some_iff.mp h
    rw [oget h2]
    cases x with
    | unset => have q := oAt_ok (ρ := ρ) h; exact ⟨q.1, q.2.trans q1.2⟩
    | second => have q := oAt_ok (ρ := ρ) h; exact ⟨q.1, q.2.trans q1.2⟩
    | val old =>
      show (if (ov ρ old).category = 2 then _ else _) = _ ∧ _
      rw [ov_cat]
      dsimp only at h
      split at h
      · rename_i hc2
        rw [if_pos hc2]
        obtain ⟨L2, h3, h⟩ := Option.bind_eq_some_iff.mp h
        have q2 := oAt_ok (ρ := ρ) h3
        have q2' : setAt (L1.map (osl ρ)).toArray (i + 2) .unset = some (L2.map (osl ρ)).toArray := q2.1
        rw [q2']
        have q := oAt_ok (ρ := ρ) h
        exact ⟨q.1, (q.2.trans q2.2).trans q1.2⟩
      · rename_i hc2
        rw [if_neg hc2]
        have q := oAt_ok (ρ := ρ) h
        exact ⟨q.1, q.2.trans q1.2⟩
  · rename_i hc
    rw [if_neg hc]
    cases h
    exact ⟨rfl, q1.2⟩
theorem oSt_eq {l : Array Slot} {i : Nat} {v : Value} : storeLocals l i v = ((l[i]?).bind fun x => match x with
    | .second => (setAt l (i - 1) .unset).bind fun l => storeSelf l i v
    | .val old => if old.category = 2 then (setAt l (i + 1) .unset).bind fun l => storeSelf l i v else storeSelf l i v
    | .unset => storeSelf l i v) := by
  show (l[i]?).bind _ = (l[i]?).bind _
  cases l[i]? with
  | none => rfl
  | some x => cases x <;> rfl
theorem oSt_ok {ρ : oM} {L L' : List Slot} {i : Nat} {v : Value} (h : oSt L i v = some L') : storeLocals (L.map (osl ρ)).toArray i (ov ρ v) = some (L'.map (osl ρ)).toArray ∧ L'.length = L.length := by
  rw [oSt_eq]
  unfold oSt at h
  obtain ⟨x, h1, h⟩ := Option.bind_eq_some_iff.mp h
  rw [oget h1]
  cases x with
  | unset => exact oSelf_ok h
  | second =>
    obtain ⟨L1, h2, h⟩ := Option.bind_eq_some_iff.mp h
    have q1 := oAt_ok (ρ := ρ) h2
    have q1' : setAt (L.map (osl ρ)).toArray (i - 1) .unset = some (L1.map (osl ρ)).toArray := q1.1
    show (setAt _ _ _).bind _ = _ ∧ _
    rw [q1']
    have q := oSelf_ok (ρ := ρ) h
    exact ⟨q.1, q.2.trans q1.2⟩
  | val old =>
    show (if (ov ρ old).category = 2 then _ else _) = _ ∧ _
    rw [ov_cat]
    dsimp only at h
    split at h
    · rename_i hc
      rw [if_pos hc]
      obtain ⟨L1, h2, h⟩ := Option.bind_eq_some_iff.mp h
      have q1 := oAt_ok (ρ := ρ) h2
      have q1' : setAt (L.map (osl ρ)).toArray (i + 1) .unset = some (L1.map (osl ρ)).toArray := q1.1
      rw [q1']
      have q := oSelf_ok (ρ := ρ) h
      exact ⟨q.1, q.2.trans q1.2⟩
    · rename_i hc
      rw [if_neg hc]
      exact oSelf_ok h
/-- a slot of any kind of one word is written over -/
theorem oSt_one {L : List Slot} {i : Nat} {v : Value} {o : Slot} (h : L[i]? = some o) (ho : One o) (hv : v.category = 1) : oSt L i v = some (L.set i (.val v)) := by
  have hi := (List.getElem?_eq_some_iff.mp h).1
  have e : oSelf L i v = some (L.set i (.val v)) := by
    unfold oSelf oAt
    rw [if_pos hi]
    show (if v.category = 2 then _ else _) = _
    rw [if_neg (by omega)]
  unfold oSt
  rw [h]
  rcases ho with rfl | ⟨w, rfl, hw⟩
  · exact e
  · show (if w.category = 2 then _ else _) = _
    rw [if_neg (by omega)]; exact e
/-! the judgements -/
abbrev oF (ρ : oM) (m : MethodId) (a : oS) : JFrame := mkF m a.1 (a.2.1.map (osl ρ)).toArray (a.2.2.1.map (ov ρ))
/-- from the abstract state a the walk comes to b -/
def Sim (l : Launch) (Z : State) (K : oK) (ρ : oM) (own mn : String) (bytes : ByteArray) (ml : Nat) (R : Room) (a b : oS) : Prop :=
  ∀ (p : Program) (e : Env) (s : State) (m : MethodId) (args : Array Value) (below : List Frame) (meth : Method) (c : Code) (T : State) (locs : List Loc),
    Stand p l e R s m args below meth c T locs a.2.2.2.2.1 a.2.2.2.2.2 → p.tables.exec = Jvm.exec → Z.Warmed39 s.vm → c.code = bytes → c.maxLocals = ml → s.vm.findClass own = some m.cls → meth.name = mn → oRep Z K ρ T.heap a.2.2.2.1 → Fr (ρ.1 0) locs → a.2.1.length = ml →
    ∃ (T' : State) (locs' : List Loc), Stand p l e R s m args below meth c T' locs' b.2.2.2.2.1 b.2.2.2.2.2 ∧ oRep Z K ρ T'.heap b.2.2.2.1 ∧ Fr (ρ.1 0) locs' ∧ b.2.1.length = ml ∧
      ∀ target, Steps p.tables e below (T'.setTop (oF ρ m b)) target → Steps p.tables e below (T.setTop (oF ρ m a)) target
/-- from the abstract state a the method returns v, and its own heap is then A' -/
def Ends (l : Launch) (Z : State) (K : oK) (ρ : oM) (own mn : String) (bytes : ByteArray) (ml : Nat) (R : Room) (ret : Option FieldType) (a : oS) (v : Option Value) (A' : oH) : Prop :=
  ∀ (p : Program) (e : Env) (s : State) (m : MethodId) (args : Array Value) (below : List Frame) (meth : Method) (c : Code) (T : State) (locs : List Loc),
    Stand p l e R s m args below meth c T locs a.2.2.2.2.1 a.2.2.2.2.2 → p.tables.exec = Jvm.exec → Z.Warmed39 s.vm → c.code = bytes → c.maxLocals = ml → s.vm.findClass own = some m.cls → meth.name = mn → oRep Z K ρ T.heap a.2.2.2.1 → Fr (ρ.1 0) locs → a.2.1.length = ml →
    meth.sig.returnType = ret → meth.locks = false →
    ∃ (s₂ : State) (locs' : List Loc), Steps p.tables e below (T.setTop (oF ρ m a)) s₂ ∧ s₂.status = .running ∧ Ended s₂ below (.returned (v.map (ov ρ))) ∧ Fr (ρ.1 0) locs' ∧ oRep Z K ρ s₂.heap A' ∧ s.WarmedH s₂.vm ∧ s.sameButNew ({ s₂ with vm := s.vm } : State) locs' R.cells R.slots
/-- the contract of a method at given arguments and own heap -/
def Met (l : Launch) (Z : State) (K : oK) (ρ : oM) (y : MethodName) (bytes : ByteArray) (ml : Nat) (ret : Option FieldType) (rm : Room) (ws : List Jvm.Cond) (as : List Value) (A : oH) (v : Option Value) (A' : oH) : Prop :=
  ∀ h0, oRep Z K ρ h0 A → MetFree l y (head1 (Jvm.Cond.code y bytes ml ret :: ws) rm) (fun a U => a = (as.map (ov ρ)).toArray ∧ Z.Warmed39 U.vm ∧ U.heap = h0) (fun _ _ _ _ _ => True)
    (fun _ U o U' => ∃ v' L, o = .returned v' ∧ (v' = v.map (ov ρ) ∧ Fr (ρ.1 0) L ∧ oRep Z K ρ U'.heap A') ∧ FrameEnd U o U' L rm.cells rm.slots)
section Layer
variable {l : Launch} {Z : State} {K : oK} {ρ : oM} {own mn : String} {bytes : ByteArray} {ml : Nat} {R : Room} {ret : Option FieldType} {a0 : Array Value}
variable {pc pc' : Nat} {L L' : List Slot} {S S' : List Value} {A A' : oH} {c n : Nat} {v : Option Value}
theorem Sim.rf (a : oS) : Sim l Z K ρ own mn bytes ml R a a := fun p e s m args below meth c T locs X _ _ _ _ _ _ hR hF hL => ⟨T, locs, X, hR, hF, hL, fun _ k => k⟩
theorem Sim.tr {a b d : oS} (h1 : Sim l Z K ρ own mn bytes ml R a b) (h2 : Sim l Z K ρ own mn bytes ml R b d) : Sim l Z K ρ own mn bytes ml R a d := fun p e s m args below meth c T locs X hx hZ hby hml hown hnm hR hF hL => by
  obtain ⟨T1, l1, X1, R1, F1, L1, k1⟩ := h1 p e s m args below meth c T locs X hx hZ hby hml hown hnm hR hF hL
  obtain ⟨T2, l2, X2, R2, F2, L2, k2⟩ := h2 p e s m args below meth c T1 l1 X1 hx hZ hby hml hown hnm R1 F1 L1
  exact ⟨T2, l2, X2, R2, F2, L2, fun t k => k1 t (k2 t k)⟩
theorem Ends.st {a b : oS} (h1 : Sim l Z K ρ own mn bytes ml R a b) (h2 : Ends l Z K ρ own mn bytes ml R ret b v A') : Ends l Z K ρ own mn bytes ml R ret a v A' := fun p e s m args below meth c T locs X hx hZ hby hml hown hnm hR hF hL hrt hlk => by
  obtain ⟨T1, l1, X1, R1, F1, L1, k1⟩ := h1 p e s m args below meth c T locs X hx hZ hby hml hown hnm hR hF hL
  obtain ⟨s2, l2, g1, g2⟩ := h2 p e s m args below meth c T1 l1 X1 hx hZ hby hml hown hnm R1 F1 L1 hrt hlk
  exact ⟨s2, l2, k1 s2 g1, g2⟩
/-- the same, whatever its own heap is then -/
def EndsE (l : Launch) (Z : State) (K : oK) (ρ : oM) (own mn : String) (bytes : ByteArray) (ml : Nat) (R : Room) (ret : Option FieldType) (a : oS) (v : Option Value) : Prop := ∃ A', Ends l Z K ρ own mn bytes ml R ret a v A'
theorem EndsE.st {a b : oS} (h1 : Sim l Z K ρ own mn bytes ml R a b) (h2 : EndsE l Z K ρ own mn bytes ml R ret b v) : EndsE l Z K ρ own mn bytes ml R ret a v := h2.imp fun _ h => Ends.st h1 h
theorem Sim.pure (hl : L'.length = L.length)
    (h : ∀ (p : Program) (e : Env) (s : State) (m : MethodId) (args : Array Value) (below : List Frame) (meth : Method) (cd : Code) (T : State) (locs : List Loc), Stand p l e R s m args below meth cd T locs c n → p.tables.exec = Jvm.exec → Z.Warmed39 s.vm → cd.code = bytes → s.vm.findClass own = some m.cls →
      ∀ target, Steps p.tables e below (T.setTop (oF ρ m (pc', L', S', A, c, n))) target → Steps p.tables e below (T.setTop (oF ρ m (pc, L, S, A, c, n))) target) :
    Sim l Z K ρ own mn bytes ml R (pc, L, S, A, c, n) (pc', L', S', A, c, n) :=
  fun p e s m args below meth cd T locs X hx hZ hby hml hown hnm hR hF hL => ⟨T, locs, X, hR, hF, hl.trans hL, h p e s m args below meth cd T locs X hx hZ hby hown⟩

theorem s_iload {j : Nat} {z : Int32} (hd : decode bytes pc = .ok (.iload j, 2)) (hl : L[j]? = some (.val (.int z))) : Sim l Z K ρ own mn bytes ml R (pc, L, S, A, c, n) (pc + 2, L, .int z :: S, A, c, n) :=
  Sim.pure rfl fun p e s m args below meth cd T locs X hx hZ hby hown target k => XS.iload X.here hx rfl (hb hby hd) (oget hl) k
theorem s_iloadN {j : Fin 4} {z : Int32} (hd : decode bytes pc = .ok (.iload_n j, 1)) (hl : L[j.val]? = some (.val (.int z))) : Sim l Z K ρ own mn bytes ml R (pc, L, S, A, c, n) (pc + 1, L, .int z :: S, A, c, n) :=
  Sim.pure rfl fun p e s m args below meth cd T locs X hx hZ hby hown target k => XS.iloadN X.here hx rfl (hb hby hd) (oget hl) k
theorem s_lload {j : Nat} {z : Int64} (hd : decode bytes pc = .ok (.lload j, 2)) (hl : L[j]? = some (.val (.long z))) : Sim l Z K ρ own mn bytes ml R (pc, L, S, A, c, n) (pc + 2, L, .long z :: S, A, c, n) :=
  Sim.pure rfl fun p e s m args below meth cd T locs X hx hZ hby hown target k => XS.lload X.here hx rfl (hb hby hd) (oget hl) k
theorem s_lloadN {j : Fin 4} {z : Int64} (hd : decode bytes pc = .ok (.lload_n j, 1)) (hl : L[j.val]? = some (.val (.long z))) : Sim l Z K ρ own mn bytes ml R (pc, L, S, A, c, n) (pc + 1, L, .long z :: S, A, c, n) :=
  Sim.pure rfl fun p e s m args below meth cd T locs X hx hZ hby hown target k => XS.lloadN X.here hx rfl (hb hby hd) (oget hl) k
theorem s_aload {j : Nat} {w : Value} (hd : decode bytes pc = .ok (.aload j, 2)) (hl : L[j]? = some (.val w)) (hv : (ov ρ w).isRef = true) : Sim l Z K ρ own mn bytes ml R (pc, L, S, A, c, n) (pc + 2, L, w :: S, A, c, n) :=
  Sim.pure rfl fun p e s m args below meth cd T locs X hx hZ hby hown target k => XS.aload X.here hx rfl (hb hby hd) (oget hl) hv k
theorem s_aloadN {j : Fin 4} {w : Value} (hd : decode bytes pc = .ok (.aload_n j, 1)) (hl : L[j.val]? = some (.val w)) (hv : (ov ρ w).isRef = true) : Sim l Z K ρ own mn bytes ml R (pc, L, S, A, c, n) (pc + 1, L, w :: S, A, c, n) :=
  Sim.pure rfl fun p e s m args below meth cd T locs X hx hZ hby hown target k => XS.aloadN X.here hx rfl (hb hby hd) (oget hl) hv k
theorem s_istore {j : Nat} {z : Int32} (hd : decode bytes pc = .ok (.istore j, 2)) (hl : oSt L j (.int z) = some L') : Sim l Z K ρ own mn bytes ml R (pc, L, .int z :: S, A, c, n) (pc + 2, L', S, A, c, n) :=
  Sim.pure (oSt_ok (ρ := ρ) hl).2 fun p e s m args below meth cd T locs X hx hZ hby hown target k => XS.istore X.here hx rfl (hb hby hd) rfl (oSt_ok (ρ := ρ) hl).1 k
theorem s_istoreN {j : Fin 4} {z : Int32} (hd : decode bytes pc = .ok (.istore_n j, 1)) (hl : oSt L j.val (.int z) = some L') : Sim l Z K ρ own mn bytes ml R (pc, L, .int z :: S, A, c, n) (pc + 1, L', S, A, c, n) :=
  Sim.pure (oSt_ok (ρ := ρ) hl).2 fun p e s m args below meth cd T locs X hx hZ hby hown target k => XS.istoreN X.here hx rfl (hb hby hd) rfl (oSt_ok (ρ := ρ) hl).1 k
theorem s_lstore {j : Nat} {z : Int64} (hd : decode bytes pc = .ok (.lstore j, 2)) (hl : oSt L j (.long z) = some L') : Sim l Z K ρ own mn bytes ml R (pc, L, .long z :: S, A, c, n) (pc + 2, L', S, A, c, n) :=
  Sim.pure (oSt_ok (ρ := ρ) hl).2 fun p e s m args below meth cd T locs X hx hZ hby hown target k => XS.lstore X.here hx rfl (hb hby hd) rfl (oSt_ok (ρ := ρ) hl).1 k
theorem s_lstoreN {j : Fin 4} {z : Int64} (hd : decode bytes pc = .ok (.lstore_n j, 1)) (hl : oSt L j.val (.long z) = some L') : Sim l Z K ρ own mn bytes ml R (pc, L, .long z :: S, A, c, n) (pc + 1, L', S, A, c, n) :=
  Sim.pure (oSt_ok (ρ := ρ) hl).2 fun p e s m args below meth cd T locs X hx hZ hby hown target k => XS.lstoreN X.here hx rfl (hb hby hd) rfl (oSt_ok (ρ := ρ) hl).1 k
theorem s_astore {j : Nat} {w : Value} (hd : decode bytes pc = .ok (.astore j, 2)) (hv : (ov ρ w).isRef = true) (hl : oSt L j w = some L') : Sim l Z K ρ own mn bytes ml R (pc, L, w :: S, A, c, n) (pc + 2, L', S, A, c, n) :=
  Sim.pure (oSt_ok (ρ := ρ) hl).2 fun p e s m args below meth cd T locs X hx hZ hby hown target k => XS.astore X.here hx rfl (hb hby hd) rfl hv (oSt_ok (ρ := ρ) hl).1 k
theorem s_astoreN {j : Fin 4} {w : Value} (hd : decode bytes pc = .ok (.astore_n j, 1)) (hv : (ov ρ w).isRef = true) (hl : oSt L j.val w = some L') : Sim l Z K ρ own mn bytes ml R (pc, L, w :: S, A, c, n) (pc + 1, L', S, A, c, n) :=
  Sim.pure (oSt_ok (ρ := ρ) hl).2 fun p e s m args below meth cd T locs X hx hZ hby hown target k => XS.astoreN X.here hx rfl (hb hby hd) rfl hv (oSt_ok (ρ := ρ) hl).1 k
theorem s_iinc {j : Nat} {i : Int} {z z' : Int32} (hd : decode bytes pc = .ok (.iinc j i, 3)) (h : L[j]? = some (.val (.int z))) (hz : z + Int32.ofInt i = z') (hl : oSt L j (.int z') = some L') : Sim l Z K ρ own mn bytes ml R (pc, L, S, A, c, n) (pc + 3, L', S, A, c, n) := by
  subst hz
  exact Sim.pure (oSt_ok (ρ := ρ) hl).2 fun p e s m args below meth cd T locs X hx hZ hby hown target k => XS.iinc X.here hx rfl (hb hby hd) (oget h) (oSt_ok (ρ := ρ) hl).1 k
theorem s_iconst {i : Int} {z : Int32} (hd : decode bytes pc = .ok (.iconst i, 1)) (hz : (Int32.ofInt i) = z) : Sim l Z K ρ own mn bytes ml R (pc, L, S, A, c, n) (pc + 1, L, .int z :: S, A, c, n) := by
  subst hz
  exact Sim.pure rfl fun p e s m args below meth cd T locs X hx hZ hby hown target k => XS.iconst X.here hx rfl (hb hby hd) k
theorem s_bipush {i : Int} {z : Int32} (hd : decode bytes pc = .ok (.bipush i, 2)) (hz : (Int8.ofInt i).toInt32 = z) : Sim l Z K ρ own mn bytes ml R (pc, L, S, A, c, n) (pc + 2, L, .int z :: S, A, c, n) := by
  subst hz
  exact Sim.pure rfl fun p e s m args below meth cd T locs X hx hZ hby hown target k => XS.bipush X.here hx rfl (hb hby hd) k
theorem s_sipush {i : Int} {z : Int32} (hd : decode bytes pc = .ok (.sipush i, 3)) (hz : (Int16.ofInt i).toInt32 = z) : Sim l Z K ρ own mn bytes ml R (pc, L, S, A, c, n) (pc + 3, L, .int z :: S, A, c, n) := by
  subst hz
  exact Sim.pure rfl fun p e s m args below meth cd T locs X hx hZ hby hown target k => XS.sipush X.here hx rfl (hb hby hd) k
theorem s_lconst {i : Fin 2} {z : Int64} (hd : decode bytes pc = .ok (.lconst i, 1)) (hz : Int64.ofNat i = z) : Sim l Z K ρ own mn bytes ml R (pc, L, S, A, c, n) (pc + 1, L, .long z :: S, A, c, n) := by
  subst hz
  exact Sim.pure rfl fun p e s m args below meth cd T locs X hx hZ hby hown target k => XS.lconst X.here hx rfl (hb hby hd) k
theorem s_aconstNull  (hd : decode bytes pc = .ok (.aconst_null, 1)) : Sim l Z K ρ own mn bytes ml R (pc, L, S, A, c, n) (pc + 1, L, .null :: S, A, c, n) :=
  Sim.pure rfl fun p e s m args below meth cd T locs X hx hZ hby hown target k => XS.aconstNull X.here hx rfl (hb hby hd) k
theorem s_ldc {i : Nat} {z : Int32} (w : (Jvm.Cond.constant own i z).before a0 Z = true) (hd : decode bytes pc = .ok (.ldc i, 2)) : Sim l Z K ρ own mn bytes ml R (pc, L, S, A, c, n) (pc + 2, L, .int z :: S, A, c, n) :=
  Sim.pure rfl fun p e s m args below meth cd T locs X hx hZ hby hown target k => X.ldcInt hx hown (mvT hZ w) (g := oF ρ m (pc, L, S, A, c, n)) rfl (hb hby hd) target k
theorem s_ldcw {i : Nat} {z : Int32} (w : (Jvm.Cond.constant own i z).before a0 Z = true) (hd : decode bytes pc = .ok (.ldc_w i, 3)) : Sim l Z K ρ own mn bytes ml R (pc, L, S, A, c, n) (pc + 3, L, .int z :: S, A, c, n) :=
  Sim.pure rfl fun p e s m args below meth cd T locs X hx hZ hby hown target k => X.ldcwInt hx hown (mvT hZ w) (g := oF ρ m (pc, L, S, A, c, n)) rfl (hb hby hd) target k
theorem s_ldc2 {i : Nat} {z : Int64} (w : (Jvm.Cond.constantLong own i z).before a0 Z = true) (hd : decode bytes pc = .ok (.ldc2_w i, 3)) : Sim l Z K ρ own mn bytes ml R (pc, L, S, A, c, n) (pc + 3, L, .long z :: S, A, c, n) :=
  Sim.pure rfl fun p e s m args below meth cd T locs X hx hZ hby hown target k => X.ldc2Long hx hown (mvT hZ w) (g := oF ρ m (pc, L, S, A, c, n)) rfl (hb hby hd) target k
def jushr (x y : Int32) : Int32 := (x.toUInt32 >>> (y &&& 31).toUInt32).toInt32
def jshl (x y : Int32) : Int32 := x <<< (y &&& 31)
def jshr (x y : Int32) : Int32 := x >>> (y &&& 31)
def jushrL (x : Int64) (y : Int32) : Int64 := (x.toUInt64 >>> (y &&& 0x3f).toInt64.toUInt64).toInt64
def jshlL (x : Int64) (y : Int32) : Int64 := x <<< (y &&& 0x3f).toInt64
def jshrL (x : Int64) (y : Int32) : Int64 := x >>> (y &&& 0x3f).toInt64
def jcmp (x y : Int64) : Int32 := if x > y then 1 else if x = y then 0 else -1
theorem s_iadd {x y : Int32} (hd : decode bytes pc = .ok (.iadd, 1)) : Sim l Z K ρ own mn bytes ml R (pc, L, .int y :: .int x :: S, A, c, n) (pc + 1, L, .int (x + y) :: S, A, c, n) :=
  Sim.pure rfl fun p e s m args below meth cd T locs X hx hZ hby hown target k => XS.iadd X.here hx rfl (hb hby hd) rfl k
theorem s_isub {x y : Int32} (hd : decode bytes pc = .ok (.isub, 1)) : Sim l Z K ρ own mn bytes ml R (pc, L, .int y :: .int x :: S, A, c, n) (pc + 1, L, .int (x - y) :: S, A, c, n) :=
  Sim.pure rfl fun p e s m args below meth cd T locs X hx hZ hby hown target k => XS.isub X.here hx rfl (hb hby hd) rfl k
theorem s_imul {x y : Int32} (hd : decode bytes pc = .ok (.imul, 1)) : Sim l Z K ρ own mn bytes ml R (pc, L, .int y :: .int x :: S, A, c, n) (pc + 1, L, .int (x * y) :: S, A, c, n) :=
  Sim.pure rfl fun p e s m args below meth cd T locs X hx hZ hby hown target k => XS.imul X.here hx rfl (hb hby hd) rfl k
theorem s_iand {x y : Int32} (hd : decode bytes pc = .ok (.iand, 1)) : Sim l Z K ρ own mn bytes ml R (pc, L, .int y :: .int x :: S, A, c, n) (pc + 1, L, .int (x &&& y) :: S, A, c, n) :=
  Sim.pure rfl fun p e s m args below meth cd T locs X hx hZ hby hown target k => XS.iand X.here hx rfl (hb hby hd) rfl k
theorem s_ior {x y : Int32} (hd : decode bytes pc = .ok (.ior, 1)) : Sim l Z K ρ own mn bytes ml R (pc, L, .int y :: .int x :: S, A, c, n) (pc + 1, L, .int (x ||| y) :: S, A, c, n) :=
  Sim.pure rfl fun p e s m args below meth cd T locs X hx hZ hby hown target k => XS.ior X.here hx rfl (hb hby hd) rfl k
theorem s_ixor {x y : Int32} (hd : decode bytes pc = .ok (.ixor, 1)) : Sim l Z K ρ own mn bytes ml R (pc, L, .int y :: .int x :: S, A, c, n) (pc + 1, L, .int (x ^^^ y) :: S, A, c, n) :=
  Sim.pure rfl fun p e s m args below meth cd T locs X hx hZ hby hown target k => XS.ixor X.here hx rfl (hb hby hd) rfl k
theorem s_ishl {x y : Int32} (hd : decode bytes pc = .ok (.ishl, 1)) : Sim l Z K ρ own mn bytes ml R (pc, L, .int y :: .int x :: S, A, c, n) (pc + 1, L, .int (jshl x y) :: S, A, c, n) :=
  Sim.pure rfl fun p e s m args below meth cd T locs X hx hZ hby hown target k => XS.ishl X.here hx rfl (hb hby hd) rfl k
theorem s_ishr {x y : Int32} (hd : decode bytes pc = .ok (.ishr, 1)) : Sim l Z K ρ own mn bytes ml R (pc, L, .int y :: .int x :: S, A, c, n) (pc + 1, L, .int (jshr x y) :: S, A, c, n) :=
  Sim.pure rfl fun p e s m args below meth cd T locs X hx hZ hby hown target k => XS.ishr X.here hx rfl (hb hby hd) rfl k
theorem s_iushr {x y : Int32} (hd : decode bytes pc = .ok (.iushr, 1)) : Sim l Z K ρ own mn bytes ml R (pc, L, .int y :: .int x :: S, A, c, n) (pc + 1, L, .int (jushr x y) :: S, A, c, n) :=
  Sim.pure rfl fun p e s m args below meth cd T locs X hx hZ hby hown target k => XS.iushr X.here hx rfl (hb hby hd) rfl k
theorem s_ladd {x y : Int64} (hd : decode bytes pc = .ok (.ladd, 1)) : Sim l Z K ρ own mn bytes ml R (pc, L, .long y :: .long x :: S, A, c, n) (pc + 1, L, .long (x + y) :: S, A, c, n) :=
  Sim.pure rfl fun p e s m args below meth cd T locs X hx hZ hby hown target k => XS.ladd X.here hx rfl (hb hby hd) rfl k
theorem s_lsub {x y : Int64} (hd : decode bytes pc = .ok (.lsub, 1)) : Sim l Z K ρ own mn bytes ml R (pc, L, .long y :: .long x :: S, A, c, n) (pc + 1, L, .long (x - y) :: S, A, c, n) :=
  Sim.pure rfl fun p e s m args below meth cd T locs X hx hZ hby hown target k => XS.lsub X.here hx rfl (hb hby hd) rfl k
theorem s_lmul {x y : Int64} (hd : decode bytes pc = .ok (.lmul, 1)) : Sim l Z K ρ own mn bytes ml R (pc, L, .long y :: .long x :: S, A, c, n) (pc + 1, L, .long (x * y) :: S, A, c, n) :=
  Sim.pure rfl fun p e s m args below meth cd T locs X hx hZ hby hown target k => XS.lmul X.here hx rfl (hb hby hd) rfl k
theorem s_land {x y : Int64} (hd : decode bytes pc = .ok (.land, 1)) : Sim l Z K ρ own mn bytes ml R (pc, L, .long y :: .long x :: S, A, c, n) (pc + 1, L, .long (x &&& y) :: S, A, c, n) :=
  Sim.pure rfl fun p e s m args below meth cd T locs X hx hZ hby hown target k => XS.land X.here hx rfl (hb hby hd) rfl k
theorem s_lor {x y : Int64} (hd : decode bytes pc = .ok (.lor, 1)) : Sim l Z K ρ own mn bytes ml R (pc, L, .long y :: .long x :: S, A, c, n) (pc + 1, L, .long (x ||| y) :: S, A, c, n) :=
  Sim.pure rfl fun p e s m args below meth cd T locs X hx hZ hby hown target k => XS.lor X.here hx rfl (hb hby hd) rfl k
theorem s_lxor {x y : Int64} (hd : decode bytes pc = .ok (.lxor, 1)) : Sim l Z K ρ own mn bytes ml R (pc, L, .long y :: .long x :: S, A, c, n) (pc + 1, L, .long (x ^^^ y) :: S, A, c, n) :=
  Sim.pure rfl fun p e s m args below meth cd T locs X hx hZ hby hown target k => XS.lxor X.here hx rfl (hb hby hd) rfl k
theorem s_lshl {x : Int64} {y : Int32} (hd : decode bytes pc = .ok (.lshl, 1)) : Sim l Z K ρ own mn bytes ml R (pc, L, .int y :: .long x :: S, A, c, n) (pc + 1, L, .long (jshlL x y) :: S, A, c, n) :=
  Sim.pure rfl fun p e s m args below meth cd T locs X hx hZ hby hown target k => XS.lshl X.here hx rfl (hb hby hd) rfl k
theorem s_lshr {x : Int64} {y : Int32} (hd : decode bytes pc = .ok (.lshr, 1)) : Sim l Z K ρ own mn bytes ml R (pc, L, .int y :: .long x :: S, A, c, n) (pc + 1, L, .long (jshrL x y) :: S, A, c, n) :=
  Sim.pure rfl fun p e s m args below meth cd T locs X hx hZ hby hown target k => XS.lshr X.here hx rfl (hb hby hd) rfl k
theorem s_lushr {x : Int64} {y : Int32} (hd : decode bytes pc = .ok (.lushr, 1)) : Sim l Z K ρ own mn bytes ml R (pc, L, .int y :: .long x :: S, A, c, n) (pc + 1, L, .long (jushrL x y) :: S, A, c, n) :=
  Sim.pure rfl fun p e s m args below meth cd T locs X hx hZ hby hown target k => XS.lushr X.here hx rfl (hb hby hd) rfl k
theorem s_lcmp {x y : Int64} (hd : decode bytes pc = .ok (.lcmp, 1)) : Sim l Z K ρ own mn bytes ml R (pc, L, .long y :: .long x :: S, A, c, n) (pc + 1, L, .int (jcmp x y) :: S, A, c, n) :=
  Sim.pure rfl fun p e s m args below meth cd T locs X hx hZ hby hown target k => XS.lcmp X.here hx rfl (hb hby hd) rfl k
theorem s_ineg {x : Int32} (hd : decode bytes pc = .ok (.ineg, 1)) : Sim l Z K ρ own mn bytes ml R (pc, L, .int x :: S, A, c, n) (pc + 1, L, .int (-x) :: S, A, c, n) :=
  Sim.pure rfl fun p e s m args below meth cd T locs X hx hZ hby hown target k => XS.ineg X.here hx rfl (hb hby hd) rfl k
theorem s_lneg {x : Int64} (hd : decode bytes pc = .ok (.lneg, 1)) : Sim l Z K ρ own mn bytes ml R (pc, L, .long x :: S, A, c, n) (pc + 1, L, .long (-x) :: S, A, c, n) :=
  Sim.pure rfl fun p e s m args below meth cd T locs X hx hZ hby hown target k => XS.lneg X.here hx rfl (hb hby hd) rfl k
theorem s_i2l {x : Int32} (hd : decode bytes pc = .ok (.i2l, 1)) : Sim l Z K ρ own mn bytes ml R (pc, L, .int x :: S, A, c, n) (pc + 1, L, .long (x.toInt64) :: S, A, c, n) :=
  Sim.pure rfl fun p e s m args below meth cd T locs X hx hZ hby hown target k => XS.i2l X.here hx rfl (hb hby hd) rfl k
theorem s_l2i {x : Int64} (hd : decode bytes pc = .ok (.l2i, 1)) : Sim l Z K ρ own mn bytes ml R (pc, L, .long x :: S, A, c, n) (pc + 1, L, .int (x.toInt32) :: S, A, c, n) :=
  Sim.pure rfl fun p e s m args below meth cd T locs X hx hZ hby hown target k => XS.l2i X.here hx rfl (hb hby hd) rfl k
theorem s_i2b {x : Int32} (hd : decode bytes pc = .ok (.i2b, 1)) : Sim l Z K ρ own mn bytes ml R (pc, L, .int x :: S, A, c, n) (pc + 1, L, .int (x.toInt8.toInt32) :: S, A, c, n) :=
  Sim.pure rfl fun p e s m args below meth cd T locs X hx hZ hby hown target k => XS.i2b X.here hx rfl (hb hby hd) rfl k
theorem s_i2s {x : Int32} (hd : decode bytes pc = .ok (.i2s, 1)) : Sim l Z K ρ own mn bytes ml R (pc, L, .int x :: S, A, c, n) (pc + 1, L, .int (x.toInt16.toInt32) :: S, A, c, n) :=
  Sim.pure rfl fun p e s m args below meth cd T locs X hx hZ hby hown target k => XS.i2s X.here hx rfl (hb hby hd) rfl k
theorem s_i2c {x : Int32} (hd : decode bytes pc = .ok (.i2c, 1)) : Sim l Z K ρ own mn bytes ml R (pc, L, .int x :: S, A, c, n) (pc + 1, L, .int (x.toUInt32.toUInt16.toUInt32.toInt32) :: S, A, c, n) :=
  Sim.pure rfl fun p e s m args below meth cd T locs X hx hZ hby hown target k => XS.i2c X.here hx rfl (hb hby hd) rfl k
theorem s_idiv {x y : Int32} (hd : decode bytes pc = .ok (.idiv, 1)) (hy : y ≠ 0) : Sim l Z K ρ own mn bytes ml R (pc, L, .int y :: .int x :: S, A, c, n) (pc + 1, L, .int (x / y) :: S, A, c, n) :=
  Sim.pure rfl fun p e s m args below meth cd T locs X hx hZ hby hown target k => XS.idiv X.here hx rfl (hb hby hd) rfl hy k
theorem s_irem {x y : Int32} (hd : decode bytes pc = .ok (.irem, 1)) (hy : y ≠ 0) : Sim l Z K ρ own mn bytes ml R (pc, L, .int y :: .int x :: S, A, c, n) (pc + 1, L, .int (x % y) :: S, A, c, n) :=
  Sim.pure rfl fun p e s m args below meth cd T locs X hx hZ hby hown target k => iremM X hx rfl (hb hby hd) rfl hy k
theorem s_ldiv {x y : Int64} (hd : decode bytes pc = .ok (.ldiv, 1)) (hy : y ≠ 0) : Sim l Z K ρ own mn bytes ml R (pc, L, .long y :: .long x :: S, A, c, n) (pc + 1, L, .long (x / y) :: S, A, c, n) :=
  Sim.pure rfl fun p e s m args below meth cd T locs X hx hZ hby hown target k => XS.ldiv X.here hx rfl (hb hby hd) rfl hy k
theorem s_lrem {x y : Int64} (hd : decode bytes pc = .ok (.lrem, 1)) (hy : y ≠ 0) : Sim l Z K ρ own mn bytes ml R (pc, L, .long y :: .long x :: S, A, c, n) (pc + 1, L, .long (x % y) :: S, A, c, n) :=
  Sim.pure rfl fun p e s m args below meth cd T locs X hx hZ hby hown target k => XS.lrem X.here hx rfl (hb hby hd) rfl hy (by rw [lrem_mod x y]; exact k)
theorem s_dup {w : Value} (hd : decode bytes pc = .ok (.dup, 1)) (hc : w.category = 1) : Sim l Z K ρ own mn bytes ml R (pc, L, w :: S, A, c, n) (pc + 1, L, w :: w :: S, A, c, n) :=
  Sim.pure rfl fun p e s m args below meth cd T locs X hx hZ hby hown target k => XS.dup X.here hx rfl (hb hby hd) rfl ((ov_cat ρ w).trans hc) k
theorem s_pop {w : Value} (hd : decode bytes pc = .ok (.pop, 1)) (hc : w.category = 1) : Sim l Z K ρ own mn bytes ml R (pc, L, w :: S, A, c, n) (pc + 1, L, S, A, c, n) :=
  Sim.pure rfl fun p e s m args below meth cd T locs X hx hZ hby hown target k => XS.pop X.here hx rfl (hb hby hd) rfl ((ov_cat ρ w).trans hc) k
theorem s_dupX1 {w u : Value} (hd : decode bytes pc = .ok (.dup_x1, 1)) (hc : w.category = 1) (hc' : u.category = 1) : Sim l Z K ρ own mn bytes ml R (pc, L, w :: u :: S, A, c, n) (pc + 1, L, w :: u :: w :: S, A, c, n) :=
  Sim.pure rfl fun p e s m args below meth cd T locs X hx hZ hby hown target k => XS.dupX1 X.here hx rfl (hb hby hd) rfl ((ov_cat ρ w).trans hc) ((ov_cat ρ u).trans hc') k
theorem s_goto {o : Int} (hd : decode bytes pc = .ok (.goto o, 3)) (ho : 0 ≤ (pc : Int) + o) (hp : ((pc : Int) + o).toNat = pc') : Sim l Z K ρ own mn bytes ml R (pc, L, S, A, c, n) (pc', L, S, A, c, n) :=
  Sim.pure rfl fun p e s m args below meth cd T locs X hx hZ hby hown target k => XS.goto X.here hx rfl rfl (hb hby hd) ho hp k
theorem s_icmp_eq_t {o : Int} {x y : Int32} (hd : decode bytes pc = .ok (.if_icmp .eq o, 3)) (h : x = y) (ho : 0 ≤ (pc : Int) + o) (hp : ((pc : Int) + o).toNat = pc') : Sim l Z K ρ own mn bytes ml R (pc, L, .int y :: .int x :: S, A, c, n) (pc', L, S, A, c, n) :=
  Sim.pure rfl fun p e s m args below meth cd T locs X hx hZ hby hown target k => XS.icmpYes X.here hx rfl rfl (hb hby hd) rfl (teq h).1 ho hp k
theorem s_icmp_eq_f {o : Int} {x y : Int32} (hd : decode bytes pc = .ok (.if_icmp .eq o, 3)) (h : ¬ x = y) : Sim l Z K ρ own mn bytes ml R (pc, L, .int y :: .int x :: S, A, c, n) (pc + 3, L, S, A, c, n) :=
  Sim.pure rfl fun p e s m args below meth cd T locs X hx hZ hby hown target k => XS.icmpNo X.here hx rfl (hb hby hd) rfl (feq h).1 k
theorem s_if_eq_t {o : Int} {x : Int32} (hd : decode bytes pc = .ok (.ifCond .eq o, 3)) (h : x = 0) (ho : 0 ≤ (pc : Int) + o) (hp : ((pc : Int) + o).toNat = pc') : Sim l Z K ρ own mn bytes ml R (pc, L, .int x :: S, A, c, n) (pc', L, S, A, c, n) :=
  Sim.pure rfl fun p e s m args below meth cd T locs X hx hZ hby hown target k => XS.ifYes X.here hx rfl rfl (hb hby hd) rfl ((if0 _ _).trans (teq h).1) ho hp k
theorem s_if_eq_f {o : Int} {x : Int32} (hd : decode bytes pc = .ok (.ifCond .eq o, 3)) (h : ¬ x = 0) : Sim l Z K ρ own mn bytes ml R (pc, L, .int x :: S, A, c, n) (pc + 3, L, S, A, c, n) :=
  Sim.pure rfl fun p e s m args below meth cd T locs X hx hZ hby hown target k => XS.ifNo X.here hx rfl (hb hby hd) rfl ((if0 _ _).trans (feq h).1) k
theorem Ends.icmp_eq {o : Int} {x y : Int32} (hd : decode bytes pc = .ok (.if_icmp .eq o, 3)) (ho : 0 ≤ (pc : Int) + o) (hp : ((pc : Int) + o).toNat = pc') (ht : x = y → Ends l Z K ρ own mn bytes ml R ret (pc', L, S, A, c, n) v A') (hf : ¬ x = y → Ends l Z K ρ own mn bytes ml R ret (pc + 3, L, S, A, c, n) v A') : Ends l Z K ρ own mn bytes ml R ret (pc, L, .int y :: .int x :: S, A, c, n) v A' := by
  by_cases h : x = y
  · exact Ends.st (s_icmp_eq_t hd h ho hp) (ht h)
  · exact Ends.st (s_icmp_eq_f hd h) (hf h)
theorem Ends.if_eq {o : Int} {x : Int32} (hd : decode bytes pc = .ok (.ifCond .eq o, 3)) (ho : 0 ≤ (pc : Int) + o) (hp : ((pc : Int) + o).toNat = pc') (ht : x = 0 → Ends l Z K ρ own mn bytes ml R ret (pc', L, S, A, c, n) v A') (hf : ¬ x = 0 → Ends l Z K ρ own mn bytes ml R ret (pc + 3, L, S, A, c, n) v A') : Ends l Z K ρ own mn bytes ml R ret (pc, L, .int x :: S, A, c, n) v A' := by
  by_cases h : x = 0
  · exact Ends.st (s_if_eq_t hd h ho hp) (ht h)
  · exact Ends.st (s_if_eq_f hd h) (hf h)
theorem Sim.icmp_eq {q : oS} {o : Int} {x y : Int32} (hd : decode bytes pc = .ok (.if_icmp .eq o, 3)) (ho : 0 ≤ (pc : Int) + o) (hp : ((pc : Int) + o).toNat = pc') (ht : x = y → Sim l Z K ρ own mn bytes ml R (pc', L, S, A, c, n) q) (hf : ¬ x = y → Sim l Z K ρ own mn bytes ml R (pc + 3, L, S, A, c, n) q) : Sim l Z K ρ own mn bytes ml R (pc, L, .int y :: .int x :: S, A, c, n) q := by
  by_cases h : x = y
  · exact Sim.tr (s_icmp_eq_t hd h ho hp) (ht h)
  · exact Sim.tr (s_icmp_eq_f hd h) (hf h)
theorem Sim.if_eq {q : oS} {o : Int} {x : Int32} (hd : decode bytes pc = .ok (.ifCond .eq o, 3)) (ho : 0 ≤ (pc : Int) + o) (hp : ((pc : Int) + o).toNat = pc') (ht : x = 0 → Sim l Z K ρ own mn bytes ml R (pc', L, S, A, c, n) q) (hf : ¬ x = 0 → Sim l Z K ρ own mn bytes ml R (pc + 3, L, S, A, c, n) q) : Sim l Z K ρ own mn bytes ml R (pc, L, .int x :: S, A, c, n) q := by
  by_cases h : x = 0
  · exact Sim.tr (s_if_eq_t hd h ho hp) (ht h)
  · exact Sim.tr (s_if_eq_f hd h) (hf h)
theorem EndsE.icmp_eq {o : Int} {x y : Int32} (hd : decode bytes pc = .ok (.if_icmp .eq o, 3)) (ho : 0 ≤ (pc : Int) + o) (hp : ((pc : Int) + o).toNat = pc') (ht : x = y → EndsE l Z K ρ own mn bytes ml R ret (pc', L, S, A, c, n) v) (hf : ¬ x = y → EndsE l Z K ρ own mn bytes ml R ret (pc + 3, L, S, A, c, n) v) : EndsE l Z K ρ own mn bytes ml R ret (pc, L, .int y :: .int x :: S, A, c, n) v := by
  by_cases h : x = y
  · exact EndsE.st (s_icmp_eq_t hd h ho hp) (ht h)
  · exact EndsE.st (s_icmp_eq_f hd h) (hf h)
theorem EndsE.if_eq {o : Int} {x : Int32} (hd : decode bytes pc = .ok (.ifCond .eq o, 3)) (ho : 0 ≤ (pc : Int) + o) (hp : ((pc : Int) + o).toNat = pc') (ht : x = 0 → EndsE l Z K ρ own mn bytes ml R ret (pc', L, S, A, c, n) v) (hf : ¬ x = 0 → EndsE l Z K ρ own mn bytes ml R ret (pc + 3, L, S, A, c, n) v) : EndsE l Z K ρ own mn bytes ml R ret (pc, L, .int x :: S, A, c, n) v := by
  by_cases h : x = 0
  · exact EndsE.st (s_if_eq_t hd h ho hp) (ht h)
  · exact EndsE.st (s_if_eq_f hd h) (hf h)
theorem s_icmp_ne_t {o : Int} {x y : Int32} (hd : decode bytes pc = .ok (.if_icmp .ne o, 3)) (h : ¬ x = y) (ho : 0 ≤ (pc : Int) + o) (hp : ((pc : Int) + o).toNat = pc') : Sim l Z K ρ own mn bytes ml R (pc, L, .int y :: .int x :: S, A, c, n) (pc', L, S, A, c, n) :=
  Sim.pure rfl fun p e s m args below meth cd T locs X hx hZ hby hown target k => XS.icmpYes X.here hx rfl rfl (hb hby hd) rfl (feq h).2 ho hp k
theorem s_icmp_ne_f {o : Int} {x y : Int32} (hd : decode bytes pc = .ok (.if_icmp .ne o, 3)) (h : x = y) : Sim l Z K ρ own mn bytes ml R (pc, L, .int y :: .int x :: S, A, c, n) (pc + 3, L, S, A, c, n) :=
  Sim.pure rfl fun p e s m args below meth cd T locs X hx hZ hby hown target k => XS.icmpNo X.here hx rfl (hb hby hd) rfl (teq h).2 k
theorem s_if_ne_t {o : Int} {x : Int32} (hd : decode bytes pc = .ok (.ifCond .ne o, 3)) (h : ¬ x = 0) (ho : 0 ≤ (pc : Int) + o) (hp : ((pc : Int) + o).toNat = pc') : Sim l Z K ρ own mn bytes ml R (pc, L, .int x :: S, A, c, n) (pc', L, S, A, c, n) :=
  Sim.pure rfl fun p e s m args below meth cd T locs X hx hZ hby hown target k => XS.ifYes X.here hx rfl rfl (hb hby hd) rfl ((if0 _ _).trans (feq h).2) ho hp k
theorem s_if_ne_f {o : Int} {x : Int32} (hd : decode bytes pc = .ok (.ifCond .ne o, 3)) (h : x = 0) : Sim l Z K ρ own mn bytes ml R (pc, L, .int x :: S, A, c, n) (pc + 3, L, S, A, c, n) :=
  Sim.pure rfl fun p e s m args below meth cd T locs X hx hZ hby hown target k => XS.ifNo X.here hx rfl (hb hby hd) rfl ((if0 _ _).trans (teq h).2) k
theorem Ends.icmp_ne {o : Int} {x y : Int32} (hd : decode bytes pc = .ok (.if_icmp .ne o, 3)) (ho : 0 ≤ (pc : Int) + o) (hp : ((pc : Int) + o).toNat = pc') (ht : ¬ x = y → Ends l Z K ρ own mn bytes ml R ret (pc', L, S, A, c, n) v A') (hf : x = y → Ends l Z K ρ own mn bytes ml R ret (pc + 3, L, S, A, c, n) v A') : Ends l Z K ρ own mn bytes ml R ret (pc, L, .int y :: .int x :: S, A, c, n) v A' := by
  by_cases h : ¬ x = y
  · exact Ends.st (s_icmp_ne_t hd h ho hp) (ht h)
  · exact Ends.st (s_icmp_ne_f hd (Classical.not_not.mp h)) (hf (Classical.not_not.mp h))
theorem Ends.if_ne {o : Int} {x : Int32} (hd : decode bytes pc = .ok (.ifCond .ne o, 3)) (ho : 0 ≤ (pc : Int) + o) (hp : ((pc : Int) + o).toNat = pc') (ht : ¬ x = 0 → Ends l Z K ρ own mn bytes ml R ret (pc', L, S, A, c, n) v A') (hf : x = 0 → Ends l Z K ρ own mn bytes ml R ret (pc + 3, L, S, A, c, n) v A') : Ends l Z K ρ own mn bytes ml R ret (pc, L, .int x :: S, A, c, n) v A' := by
  by_cases h : ¬ x = 0
  · exact Ends.st (s_if_ne_t hd h ho hp) (ht h)
  · exact Ends.st (s_if_ne_f hd (Classical.not_not.mp h)) (hf (Classical.not_not.mp h))
theorem Sim.icmp_ne {q : oS} {o : Int} {x y : Int32} (hd : decode bytes pc = .ok (.if_icmp .ne o, 3)) (ho : 0 ≤ (pc : Int) + o) (hp : ((pc : Int) + o).toNat = pc') (ht : ¬ x = y → Sim l Z K ρ own mn bytes ml R (pc', L, S, A, c, n) q) (hf : x = y → Sim l Z K ρ own mn bytes ml R (pc + 3, L, S, A, c, n) q) : Sim l Z K ρ own mn bytes ml R (pc, L, .int y :: .int x :: S, A, c, n) q := by
  by_cases h : ¬ x = y
  · exact Sim.tr (s_icmp_ne_t hd h ho hp) (ht h)
  · exact Sim.tr (s_icmp_ne_f hd (Classical.not_not.mp h)) (hf (Classical.not_not.mp h))
theorem Sim.if_ne {q : oS} {o : Int} {x : Int32} (hd : decode bytes pc = .ok (.ifCond .ne o, 3)) (ho : 0 ≤ (pc : Int) + o) (hp : ((pc : Int) + o).toNat = pc') (ht : ¬ x = 0 → Sim l Z K ρ own mn bytes ml R (pc', L, S, A, c, n) q) (hf : x = 0 → Sim l Z K ρ own mn bytes ml R (pc + 3, L, S, A, c, n) q) : Sim l Z K ρ own mn bytes ml R (pc, L, .int x :: S, A, c, n) q := by
  by_cases h : ¬ x = 0
  · exact Sim.tr (s_if_ne_t hd h ho hp) (ht h)
  · exact Sim.tr (s_if_ne_f hd (Classical.not_not.mp h)) (hf (Classical.not_not.mp h))
theorem EndsE.icmp_ne {o : Int} {x y : Int32} (hd : decode bytes pc = .ok (.if_icmp .ne o, 3)) (ho : 0 ≤ (pc : Int) + o) (hp : ((pc : Int) + o).toNat = pc') (ht : ¬ x = y → EndsE l Z K ρ own mn bytes ml R ret (pc', L, S, A, c, n) v) (hf : x = y → EndsE l Z K ρ own mn bytes ml R ret (pc + 3, L, S, A, c, n) v) : EndsE l Z K ρ own mn bytes ml R ret (pc, L, .int y :: .int x :: S, A, c, n) v := by
  by_cases h : ¬ x = y
  · exact EndsE.st (s_icmp_ne_t hd h ho hp) (ht h)
  · exact EndsE.st (s_icmp_ne_f hd (Classical.not_not.mp h)) (hf (Classical.not_not.mp h))
theorem EndsE.if_ne {o : Int} {x : Int32} (hd : decode bytes pc = .ok (.ifCond .ne o, 3)) (ho : 0 ≤ (pc : Int) + o) (hp : ((pc : Int) + o).toNat = pc') (ht : ¬ x = 0 → EndsE l Z K ρ own mn bytes ml R ret (pc', L, S, A, c, n) v) (hf : x = 0 → EndsE l Z K ρ own mn bytes ml R ret (pc + 3, L, S, A, c, n) v) : EndsE l Z K ρ own mn bytes ml R ret (pc, L, .int x :: S, A, c, n) v := by
  by_cases h : ¬ x = 0
  · exact EndsE.st (s_if_ne_t hd h ho hp) (ht h)
  · exact EndsE.st (s_if_ne_f hd (Classical.not_not.mp h)) (hf (Classical.not_not.mp h))
theorem s_icmp_lt_t {o : Int} {x y : Int32} (hd : decode bytes pc = .ok (.if_icmp .lt o, 3)) (h : x < y) (ho : 0 ≤ (pc : Int) + o) (hp : ((pc : Int) + o).toNat = pc') : Sim l Z K ρ own mn bytes ml R (pc, L, .int y :: .int x :: S, A, c, n) (pc', L, S, A, c, n) :=
  Sim.pure rfl fun p e s m args below meth cd T locs X hx hZ hby hown target k => XS.icmpYes X.here hx rfl rfl (hb hby hd) rfl (tlt h).1 ho hp k
theorem s_icmp_lt_f {o : Int} {x y : Int32} (hd : decode bytes pc = .ok (.if_icmp .lt o, 3)) (h : ¬ x < y) : Sim l Z K ρ own mn bytes ml R (pc, L, .int y :: .int x :: S, A, c, n) (pc + 3, L, S, A, c, n) :=
  Sim.pure rfl fun p e s m args below meth cd T locs X hx hZ hby hown target k => XS.icmpNo X.here hx rfl (hb hby hd) rfl (flt h).1 k
theorem s_if_lt_t {o : Int} {x : Int32} (hd : decode bytes pc = .ok (.ifCond .lt o, 3)) (h : x < 0) (ho : 0 ≤ (pc : Int) + o) (hp : ((pc : Int) + o).toNat = pc') : Sim l Z K ρ own mn bytes ml R (pc, L, .int x :: S, A, c, n) (pc', L, S, A, c, n) :=
  Sim.pure rfl fun p e s m args below meth cd T locs X hx hZ hby hown target k => XS.ifYes X.here hx rfl rfl (hb hby hd) rfl ((if0 _ _).trans (tlt h).1) ho hp k
theorem s_if_lt_f {o : Int} {x : Int32} (hd : decode bytes pc = .ok (.ifCond .lt o, 3)) (h : ¬ x < 0) : Sim l Z K ρ own mn bytes ml R (pc, L, .int x :: S, A, c, n) (pc + 3, L, S, A, c, n) :=
  Sim.pure rfl fun p e s m args below meth cd T locs X hx hZ hby hown target k => XS.ifNo X.here hx rfl (hb hby hd) rfl ((if0 _ _).trans (flt h).1) k
theorem Ends.icmp_lt {o : Int} {x y : Int32} (hd : decode bytes pc = .ok (.if_icmp .lt o, 3)) (ho : 0 ≤ (pc : Int) + o) (hp : ((pc : Int) + o).toNat = pc') (ht : x < y → Ends l Z K ρ own mn bytes ml R ret (pc', L, S, A, c, n) v A') (hf : ¬ x < y → Ends l Z K ρ own mn bytes ml R ret (pc + 3, L, S, A, c, n) v A') : Ends l Z K ρ own mn bytes ml R ret (pc, L, .int y :: .int x :: S, A, c, n) v A' := by
  by_cases h : x < y
  · exact Ends.st (s_icmp_lt_t hd h ho hp) (ht h)
  · exact Ends.st (s_icmp_lt_f hd h) (hf h)
theorem Ends.if_lt {o : Int} {x : Int32} (hd : decode bytes pc = .ok (.ifCond .lt o, 3)) (ho : 0 ≤ (pc : Int) + o) (hp : ((pc : Int) + o).toNat = pc') (ht : x < 0 → Ends l Z K ρ own mn bytes ml R ret (pc', L, S, A, c, n) v A') (hf : ¬ x < 0 → Ends l Z K ρ own mn bytes ml R ret (pc + 3, L, S, A, c, n) v A') : Ends l Z K ρ own mn bytes ml R ret (pc, L, .int x :: S, A, c, n) v A' := by
  by_cases h : x < 0
  · exact Ends.st (s_if_lt_t hd h ho hp) (ht h)
  · exact Ends.st (s_if_lt_f hd h) (hf h)
theorem Sim.icmp_lt {q : oS} {o : Int} {x y : Int32} (hd : decode bytes pc = .ok (.if_icmp .lt o, 3)) (ho : 0 ≤ (pc : Int) + o) (hp : ((pc : Int) + o).toNat = pc') (ht : x < y → Sim l Z K ρ own mn bytes ml R (pc', L, S, A, c, n) q) (hf : ¬ x < y → Sim l Z K ρ own mn bytes ml R (pc + 3, L, S, A, c, n) q) : Sim l Z K ρ own mn bytes ml R (pc, L, .int y :: .int x :: S, A, c, n) q := by
  by_cases h : x < y
  · exact Sim.tr (s_icmp_lt_t hd h ho hp) (ht h)
  · exact Sim.tr (s_icmp_lt_f hd h) (hf h)
theorem Sim.if_lt {q : oS} {o : Int} {x : Int32} (hd : decode bytes pc = .ok (.ifCond .lt o, 3)) (ho : 0 ≤ (pc : Int) + o) (hp : ((pc : Int) + o).toNat = pc') (ht : x < 0 → Sim l Z K ρ own mn bytes ml R (pc', L, S, A, c, n) q) (hf : ¬ x < 0 → Sim l Z K ρ own mn bytes ml R (pc + 3, L, S, A, c, n) q) : Sim l Z K ρ own mn bytes ml R (pc, L, .int x :: S, A, c, n) q := by
  by_cases h : x < 0
  · exact Sim.tr (s_if_lt_t hd h ho hp) (ht h)
  · exact Sim.tr (s_if_lt_f hd h) (hf h)
theorem EndsE.icmp_lt {o : Int} {x y : Int32} (hd : decode bytes pc = .ok (.if_icmp .lt o, 3)) (ho : 0 ≤ (pc : Int) + o) (hp : ((pc : Int) + o).toNat = pc') (ht : x < y → EndsE l Z K ρ own mn bytes ml R ret (pc', L, S, A, c, n) v) (hf : ¬ x < y → EndsE l Z K ρ own mn bytes ml R ret (pc + 3, L, S, A, c, n) v) : EndsE l Z K ρ own mn bytes ml R ret (pc, L, .int y :: .int x :: S, A, c, n) v := by
  by_cases h : x < y
  · exact EndsE.st (s_icmp_lt_t hd h ho hp) (ht h)
  · exact EndsE.st (s_icmp_lt_f hd h) (hf h)
theorem EndsE.if_lt {o : Int} {x : Int32} (hd : decode bytes pc = .ok (.ifCond .lt o, 3)) (ho : 0 ≤ (pc : Int) + o) (hp : ((pc : Int) + o).toNat = pc') (ht : x < 0 → EndsE l Z K ρ own mn bytes ml R ret (pc', L, S, A, c, n) v) (hf : ¬ x < 0 → EndsE l Z K ρ own mn bytes ml R ret (pc + 3, L, S, A, c, n) v) : EndsE l Z K ρ own mn bytes ml R ret (pc, L, .int x :: S, A, c, n) v := by
  by_cases h : x < 0
  · exact EndsE.st (s_if_lt_t hd h ho hp) (ht h)
  · exact EndsE.st (s_if_lt_f hd h) (hf h)
theorem s_icmp_ge_t {o : Int} {x y : Int32} (hd : decode bytes pc = .ok (.if_icmp .ge o, 3)) (h : ¬ x < y) (ho : 0 ≤ (pc : Int) + o) (hp : ((pc : Int) + o).toNat = pc') : Sim l Z K ρ own mn bytes ml R (pc, L, .int y :: .int x :: S, A, c, n) (pc', L, S, A, c, n) :=
  Sim.pure rfl fun p e s m args below meth cd T locs X hx hZ hby hown target k => XS.icmpYes X.here hx rfl rfl (hb hby hd) rfl (flt h).2.1 ho hp k
theorem s_icmp_ge_f {o : Int} {x y : Int32} (hd : decode bytes pc = .ok (.if_icmp .ge o, 3)) (h : x < y) : Sim l Z K ρ own mn bytes ml R (pc, L, .int y :: .int x :: S, A, c, n) (pc + 3, L, S, A, c, n) :=
  Sim.pure rfl fun p e s m args below meth cd T locs X hx hZ hby hown target k => XS.icmpNo X.here hx rfl (hb hby hd) rfl (tlt h).2.1 k
theorem s_if_ge_t {o : Int} {x : Int32} (hd : decode bytes pc = .ok (.ifCond .ge o, 3)) (h : ¬ x < 0) (ho : 0 ≤ (pc : Int) + o) (hp : ((pc : Int) + o).toNat = pc') : Sim l Z K ρ own mn bytes ml R (pc, L, .int x :: S, A, c, n) (pc', L, S, A, c, n) :=
  Sim.pure rfl fun p e s m args below meth cd T locs X hx hZ hby hown target k => XS.ifYes X.here hx rfl rfl (hb hby hd) rfl ((if0 _ _).trans (flt h).2.1) ho hp k
theorem s_if_ge_f {o : Int} {x : Int32} (hd : decode bytes pc = .ok (.ifCond .ge o, 3)) (h : x < 0) : Sim l Z K ρ own mn bytes ml R (pc, L, .int x :: S, A, c, n) (pc + 3, L, S, A, c, n) :=
  Sim.pure rfl fun p e s m args below meth cd T locs X hx hZ hby hown target k => XS.ifNo X.here hx rfl (hb hby hd) rfl ((if0 _ _).trans (tlt h).2.1) k
theorem Ends.icmp_ge {o : Int} {x y : Int32} (hd : decode bytes pc = .ok (.if_icmp .ge o, 3)) (ho : 0 ≤ (pc : Int) + o) (hp : ((pc : Int) + o).toNat = pc') (ht : ¬ x < y → Ends l Z K ρ own mn bytes ml R ret (pc', L, S, A, c, n) v A') (hf : x < y → Ends l Z K ρ own mn bytes ml R ret (pc + 3, L, S, A, c, n) v A') : Ends l Z K ρ own mn bytes ml R ret (pc, L, .int y :: .int x :: S, A, c, n) v A' := by
  by_cases h : ¬ x < y
  · exact Ends.st (s_icmp_ge_t hd h ho hp) (ht h)
  · exact Ends.st (s_icmp_ge_f hd (Classical.not_not.mp h)) (hf (Classical.not_not.mp h))
theorem Ends.if_ge {o : Int} {x : Int32} (hd : decode bytes pc = .ok (.ifCond .ge o, 3)) (ho : 0 ≤ (pc : Int) + o) (hp : ((pc : Int) + o).toNat = pc') (ht : ¬ x < 0 → Ends l Z K ρ own mn bytes ml R ret (pc', L, S, A, c, n) v A') (hf : x < 0 → Ends l Z K ρ own mn bytes ml R ret (pc + 3, L, S, A, c, n) v A') : Ends l Z K ρ own mn bytes ml R ret (pc, L, .int x :: S, A, c, n) v A' := by
  by_cases h : ¬ x < 0
  · exact Ends.st (s_if_ge_t hd h ho hp) (ht h)
  · exact Ends.st (s_if_ge_f hd (Classical.not_not.mp h)) (hf (Classical.not_not.mp h))
theorem Sim.icmp_ge {q : oS} {o : Int} {x y : Int32} (hd : decode bytes pc = .ok (.if_icmp .ge o, 3)) (ho : 0 ≤ (pc : Int) + o) (hp : ((pc : Int) + o).toNat = pc') (ht : ¬ x < y → Sim l Z K ρ own mn bytes ml R (pc', L, S, A, c, n) q) (hf : x < y → Sim l Z K ρ own mn bytes ml R (pc + 3, L, S, A, c, n) q) : Sim l Z K ρ own mn bytes ml R (pc, L, .int y :: .int x :: S, A, c, n) q := by
  by_cases h : ¬ x < y
  · exact Sim.tr (s_icmp_ge_t hd h ho hp) (ht h)
  · exact Sim.tr (s_icmp_ge_f hd (Classical.not_not.mp h)) (hf (Classical.not_not.mp h))
theorem Sim.if_ge {q : oS} {o : Int} {x : Int32} (hd : decode bytes pc = .ok (.ifCond .ge o, 3)) (ho : 0 ≤ (pc : Int) + o) (hp : ((pc : Int) + o).toNat = pc') (ht : ¬ x < 0 → Sim l Z K ρ own mn bytes ml R (pc', L, S, A, c, n) q) (hf : x < 0 → Sim l Z K ρ own mn bytes ml R (pc + 3, L, S, A, c, n) q) : Sim l Z K ρ own mn bytes ml R (pc, L, .int x :: S, A, c, n) q := by
  by_cases h : ¬ x < 0
  · exact Sim.tr (s_if_ge_t hd h ho hp) (ht h)
  · exact Sim.tr (s_if_ge_f hd (Classical.not_not.mp h)) (hf (Classical.not_not.mp h))
theorem EndsE.icmp_ge {o : Int} {x y : Int32} (hd : decode bytes pc = .ok (.if_icmp .ge o, 3)) (ho : 0 ≤ (pc : Int) + o) (hp : ((pc : Int) + o).toNat = pc') (ht : ¬ x < y → EndsE l Z K ρ own mn bytes ml R ret (pc', L, S, A, c, n) v) (hf : x < y → EndsE l Z K ρ own mn bytes ml R ret (pc + 3, L, S, A, c, n) v) : EndsE l Z K ρ own mn bytes ml R ret (pc, L, .int y :: .int x :: S, A, c, n) v := by
  by_cases h : ¬ x < y
  · exact EndsE.st (s_icmp_ge_t hd h ho hp) (ht h)
  · exact EndsE.st (s_icmp_ge_f hd (Classical.not_not.mp h)) (hf (Classical.not_not.mp h))
theorem EndsE.if_ge {o : Int} {x : Int32} (hd : decode bytes pc = .ok (.ifCond .ge o, 3)) (ho : 0 ≤ (pc : Int) + o) (hp : ((pc : Int) + o).toNat = pc') (ht : ¬ x < 0 → EndsE l Z K ρ own mn bytes ml R ret (pc', L, S, A, c, n) v) (hf : x < 0 → EndsE l Z K ρ own mn bytes ml R ret (pc + 3, L, S, A, c, n) v) : EndsE l Z K ρ own mn bytes ml R ret (pc, L, .int x :: S, A, c, n) v := by
  by_cases h : ¬ x < 0
  · exact EndsE.st (s_if_ge_t hd h ho hp) (ht h)
  · exact EndsE.st (s_if_ge_f hd (Classical.not_not.mp h)) (hf (Classical.not_not.mp h))
theorem s_icmp_gt_t {o : Int} {x y : Int32} (hd : decode bytes pc = .ok (.if_icmp .gt o, 3)) (h : y < x) (ho : 0 ≤ (pc : Int) + o) (hp : ((pc : Int) + o).toNat = pc') : Sim l Z K ρ own mn bytes ml R (pc, L, .int y :: .int x :: S, A, c, n) (pc', L, S, A, c, n) :=
  Sim.pure rfl fun p e s m args below meth cd T locs X hx hZ hby hown target k => XS.icmpYes X.here hx rfl rfl (hb hby hd) rfl (tlt h).2.2.1 ho hp k
theorem s_icmp_gt_f {o : Int} {x y : Int32} (hd : decode bytes pc = .ok (.if_icmp .gt o, 3)) (h : ¬ y < x) : Sim l Z K ρ own mn bytes ml R (pc, L, .int y :: .int x :: S, A, c, n) (pc + 3, L, S, A, c, n) :=
  Sim.pure rfl fun p e s m args below meth cd T locs X hx hZ hby hown target k => XS.icmpNo X.here hx rfl (hb hby hd) rfl (flt h).2.2.1 k
theorem s_if_gt_t {o : Int} {x : Int32} (hd : decode bytes pc = .ok (.ifCond .gt o, 3)) (h : 0 < x) (ho : 0 ≤ (pc : Int) + o) (hp : ((pc : Int) + o).toNat = pc') : Sim l Z K ρ own mn bytes ml R (pc, L, .int x :: S, A, c, n) (pc', L, S, A, c, n) :=
  Sim.pure rfl fun p e s m args below meth cd T locs X hx hZ hby hown target k => XS.ifYes X.here hx rfl rfl (hb hby hd) rfl ((if0 _ _).trans (tlt h).2.2.1) ho hp k
theorem s_if_gt_f {o : Int} {x : Int32} (hd : decode bytes pc = .ok (.ifCond .gt o, 3)) (h : ¬ 0 < x) : Sim l Z K ρ own mn bytes ml R (pc, L, .int x :: S, A, c, n) (pc + 3, L, S, A, c, n) :=
  Sim.pure rfl fun p e s m args below meth cd T locs X hx hZ hby hown target k => XS.ifNo X.here hx rfl (hb hby hd) rfl ((if0 _ _).trans (flt h).2.2.1) k
theorem Ends.icmp_gt {o : Int} {x y : Int32} (hd : decode bytes pc = .ok (.if_icmp .gt o, 3)) (ho : 0 ≤ (pc : Int) + o) (hp : ((pc : Int) + o).toNat = pc') (ht : y < x → Ends l Z K ρ own mn bytes ml R ret (pc', L, S, A, c, n) v A') (hf : ¬ y < x → Ends l Z K ρ own mn bytes ml R ret (pc + 3, L, S, A, c, n) v A') : Ends l Z K ρ own mn bytes ml R ret (pc, L, .int y :: .int x :: S, A, c, n) v A' := by
  by_cases h : y < x
  · exact Ends.st (s_icmp_gt_t hd h ho hp) (ht h)
  · exact Ends.st (s_icmp_gt_f hd h) (hf h)
theorem Ends.if_gt {o : Int} {x : Int32} (hd : decode bytes pc = .ok (.ifCond .gt o, 3)) (ho : 0 ≤ (pc : Int) + o) (hp : ((pc : Int) + o).toNat = pc') (ht : 0 < x → Ends l Z K ρ own mn bytes ml R ret (pc', L, S, A, c, n) v A') (hf : ¬ 0 < x → Ends l Z K ρ own mn bytes ml R ret (pc + 3, L, S, A, c, n) v A') : Ends l Z K ρ own mn bytes ml R ret (pc, L, .int x :: S, A, c, n) v A' := by
  by_cases h : 0 < x
  · exact Ends.st (s_if_gt_t hd h ho hp) (ht h)
  · exact Ends.st (s_if_gt_f hd h) (hf h)
theorem Sim.icmp_gt {q : oS} {o : Int} {x y : Int32} (hd : decode bytes pc = .ok (.if_icmp .gt o, 3)) (ho : 0 ≤ (pc : Int) + o) (hp : ((pc : Int) + o).toNat = pc') (ht : y < x → Sim l Z K ρ own mn bytes ml R (pc', L, S, A, c, n) q) (hf : ¬ y < x → Sim l Z K ρ own mn bytes ml R (pc + 3, L, S, A, c, n) q) : Sim l Z K ρ own mn bytes ml R (pc, L, .int y :: .int x :: S, A, c, n) q := by
  by_cases h : y < x
  · exact Sim.tr (s_icmp_gt_t hd h ho hp) (ht h)
  · exact Sim.tr (s_icmp_gt_f hd h) (hf h)
theorem Sim.if_gt {q : oS} {o : Int} {x : Int32} (hd : decode bytes pc = .ok (.ifCond .gt o, 3)) (ho : 0 ≤ (pc : Int) + o) (hp : ((pc : Int) + o).toNat = pc') (ht : 0 < x → Sim l Z K ρ own mn bytes ml R (pc', L, S, A, c, n) q) (hf : ¬ 0 < x → Sim l Z K ρ own mn bytes ml R (pc + 3, L, S, A, c, n) q) : Sim l Z K ρ own mn bytes ml R (pc, L, .int x :: S, A, c, n) q := by
  by_cases h : 0 < x
  · exact Sim.tr (s_if_gt_t hd h ho hp) (ht h)
  · exact Sim.tr (s_if_gt_f hd h) (hf h)
theorem EndsE.icmp_gt {o : Int} {x y : Int32} (hd : decode bytes pc = .ok (.if_icmp .gt o, 3)) (ho : 0 ≤ (pc : Int) + o) (hp : ((pc : Int) + o).toNat = pc') (ht : y < x → EndsE l Z K ρ own mn bytes ml R ret (pc', L, S, A, c, n) v) (hf : ¬ y < x → EndsE l Z K ρ own mn bytes ml R ret (pc + 3, L, S, A, c, n) v) : EndsE l Z K ρ own mn bytes ml R ret (pc, L, .int y :: .int x :: S, A, c, n) v := by
  by_cases h : y < x
  · exact EndsE.st (s_icmp_gt_t hd h ho hp) (ht h)
  · exact EndsE.st (s_icmp_gt_f hd h) (hf h)
theorem EndsE.if_gt {o : Int} {x : Int32} (hd : decode bytes pc = .ok (.ifCond .gt o, 3)) (ho : 0 ≤ (pc : Int) + o) (hp : ((pc : Int) + o).toNat = pc') (ht : 0 < x → EndsE l Z K ρ own mn bytes ml R ret (pc', L, S, A, c, n) v) (hf : ¬ 0 < x → EndsE l Z K ρ own mn bytes ml R ret (pc + 3, L, S, A, c, n) v) : EndsE l Z K ρ own mn bytes ml R ret (pc, L, .int x :: S, A, c, n) v := by
  by_cases h : 0 < x
  · exact EndsE.st (s_if_gt_t hd h ho hp) (ht h)
  · exact EndsE.st (s_if_gt_f hd h) (hf h)
theorem s_icmp_le_t {o : Int} {x y : Int32} (hd : decode bytes pc = .ok (.if_icmp .le o, 3)) (h : ¬ y < x) (ho : 0 ≤ (pc : Int) + o) (hp : ((pc : Int) + o).toNat = pc') : Sim l Z K ρ own mn bytes ml R (pc, L, .int y :: .int x :: S, A, c, n) (pc', L, S, A, c, n) :=
  Sim.pure rfl fun p e s m args below meth cd T locs X hx hZ hby hown target k => XS.icmpYes X.here hx rfl rfl (hb hby hd) rfl (flt h).2.2.2 ho hp k
theorem s_icmp_le_f {o : Int} {x y : Int32} (hd : decode bytes pc = .ok (.if_icmp .le o, 3)) (h : y < x) : Sim l Z K ρ own mn bytes ml R (pc, L, .int y :: .int x :: S, A, c, n) (pc + 3, L, S, A, c, n) :=
  Sim.pure rfl fun p e s m args below meth cd T locs X hx hZ hby hown target k => XS.icmpNo X.here hx rfl (hb hby hd) rfl (tlt h).2.2.2 k
theorem s_if_le_t {o : Int} {x : Int32} (hd : decode bytes pc = .ok (.ifCond .le o, 3)) (h : ¬ 0 < x) (ho : 0 ≤ (pc : Int) + o) (hp : ((pc : Int) + o).toNat = pc') : Sim l Z K ρ own mn bytes ml R (pc, L, .int x :: S, A, c, n) (pc', L, S, A, c, n) :=
  Sim.pure rfl fun p e s m args below meth cd T locs X hx hZ hby hown target k => XS.ifYes X.here hx rfl rfl (hb hby hd) rfl ((if0 _ _).trans (flt h).2.2.2) ho hp k
theorem s_if_le_f {o : Int} {x : Int32} (hd : decode bytes pc = .ok (.ifCond .le o, 3)) (h : 0 < x) : Sim l Z K ρ own mn bytes ml R (pc, L, .int x :: S, A, c, n) (pc + 3, L, S, A, c, n) :=
  Sim.pure rfl fun p e s m args below meth cd T locs X hx hZ hby hown target k => XS.ifNo X.here hx rfl (hb hby hd) rfl ((if0 _ _).trans (tlt h).2.2.2) k
theorem Ends.icmp_le {o : Int} {x y : Int32} (hd : decode bytes pc = .ok (.if_icmp .le o, 3)) (ho : 0 ≤ (pc : Int) + o) (hp : ((pc : Int) + o).toNat = pc') (ht : ¬ y < x → Ends l Z K ρ own mn bytes ml R ret (pc', L, S, A, c, n) v A') (hf : y < x → Ends l Z K ρ own mn bytes ml R ret (pc + 3, L, S, A, c, n) v A') : Ends l Z K ρ own mn bytes ml R ret (pc, L, .int y :: .int x :: S, A, c, n) v A' := by
  by_cases h : ¬ y < x
  · exact Ends.st (s_icmp_le_t hd h ho hp) (ht h)
  · exact Ends.st (s_icmp_le_f hd (Classical.not_not.mp h)) (hf (Classical.not_not.mp h))
theorem Ends.if_le {o : Int} {x : Int32} (hd : decode bytes pc = .ok (.ifCond .le o, 3)) (ho : 0 ≤ (pc : Int) + o) (hp : ((pc : Int) + o).toNat = pc') (ht : ¬ 0 < x → Ends l Z K ρ own mn bytes ml R ret (pc', L, S, A, c, n) v A') (hf : 0 < x → Ends l Z K ρ own mn bytes ml R ret (pc + 3, L, S, A, c, n) v A') : Ends l Z K ρ own mn bytes ml R ret (pc, L, .int x :: S, A, c, n) v A' := by
  by_cases h : ¬ 0 < x
  · exact Ends.st (s_if_le_t hd h ho hp) (ht h)
  · exact Ends.st (s_if_le_f hd (Classical.not_not.mp h)) (hf (Classical.not_not.mp h))
theorem Sim.icmp_le {q : oS} {o : Int} {x y : Int32} (hd : decode bytes pc = .ok (.if_icmp .le o, 3)) (ho : 0 ≤ (pc : Int) + o) (hp : ((pc : Int) + o).toNat = pc') (ht : ¬ y < x → Sim l Z K ρ own mn bytes ml R (pc', L, S, A, c, n) q) (hf : y < x → Sim l Z K ρ own mn bytes ml R (pc + 3, L, S, A, c, n) q) : Sim l Z K ρ own mn bytes ml R (pc, L, .int y :: .int x :: S, A, c, n) q := by
  by_cases h : ¬ y < x
  · exact Sim.tr (s_icmp_le_t hd h ho hp) (ht h)
  · exact Sim.tr (s_icmp_le_f hd (Classical.not_not.mp h)) (hf (Classical.not_not.mp h))
theorem Sim.if_le {q : oS} {o : Int} {x : Int32} (hd : decode bytes pc = .ok (.ifCond .le o, 3)) (ho : 0 ≤ (pc : Int) + o) (hp : ((pc : Int) + o).toNat = pc') (ht : ¬ 0 < x → Sim l Z K ρ own mn bytes ml R (pc', L, S, A, c, n) q) (hf : 0 < x → Sim l Z K ρ own mn bytes ml R (pc + 3, L, S, A, c, n) q) : Sim l Z K ρ own mn bytes ml R (pc, L, .int x :: S, A, c, n) q := by
  by_cases h : ¬ 0 < x
  · exact Sim.tr (s_if_le_t hd h ho hp) (ht h)
  · exact Sim.tr (s_if_le_f hd (Classical.not_not.mp h)) (hf (Classical.not_not.mp h))
theorem EndsE.icmp_le {o : Int} {x y : Int32} (hd : decode bytes pc = .ok (.if_icmp .le o, 3)) (ho : 0 ≤ (pc : Int) + o) (hp : ((pc : Int) + o).toNat = pc') (ht : ¬ y < x → EndsE l Z K ρ own mn bytes ml R ret (pc', L, S, A, c, n) v) (hf : y < x → EndsE l Z K ρ own mn bytes ml R ret (pc + 3, L, S, A, c, n) v) : EndsE l Z K ρ own mn bytes ml R ret (pc, L, .int y :: .int x :: S, A, c, n) v := by
  by_cases h : ¬ y < x
  · exact EndsE.st (s_icmp_le_t hd h ho hp) (ht h)
  · exact EndsE.st (s_icmp_le_f hd (Classical.not_not.mp h)) (hf (Classical.not_not.mp h))
theorem EndsE.if_le {o : Int} {x : Int32} (hd : decode bytes pc = .ok (.ifCond .le o, 3)) (ho : 0 ≤ (pc : Int) + o) (hp : ((pc : Int) + o).toNat = pc') (ht : ¬ 0 < x → EndsE l Z K ρ own mn bytes ml R ret (pc', L, S, A, c, n) v) (hf : 0 < x → EndsE l Z K ρ own mn bytes ml R ret (pc + 3, L, S, A, c, n) v) : EndsE l Z K ρ own mn bytes ml R ret (pc, L, .int x :: S, A, c, n) v := by
  by_cases h : ¬ 0 < x
  · exact EndsE.st (s_if_le_t hd h ho hp) (ht h)
  · exact EndsE.st (s_if_le_f hd (Classical.not_not.mp h)) (hf (Classical.not_not.mp h))
theorem s_ifnull_t {o : Int} (hd : decode bytes pc = .ok (.ifnull o, 3)) (ho : 0 ≤ (pc : Int) + o) (hp : ((pc : Int) + o).toNat = pc') : Sim l Z K ρ own mn bytes ml R (pc, L, .null :: S, A, c, n) (pc', L, S, A, c, n) :=
  Sim.pure rfl fun p e s m args below meth cd T locs X hx hZ hby hown target k => XS.ifnullYes X.here hx rfl rfl (hb hby hd) rfl ho hp k
theorem s_ifnull_f {o : Int} {j : Addr} (hd : decode bytes pc = .ok (.ifnull o, 3)) : Sim l Z K ρ own mn bytes ml R (pc, L, .ref j :: S, A, c, n) (pc + 3, L, S, A, c, n) :=
  Sim.pure rfl fun p e s m args below meth cd T locs X hx hZ hby hown target k => XS.ifnullNo X.here hx rfl (hb hby hd) rfl k
theorem oRep.arr {h : Heap} {j : Nat} {ty : FieldType} {vs : List Value} (H : oRep Z K ρ h A) (hA : A[j]? = some (.inr (ty, vs))) : (vs.length < 2 ^ 31 ∧ ∀ w ∈ vs, fits ty (ov ρ w) = true) ∧ ∃ cl : Cell, Arr Z h (ρ.1 j) cl ty ∧ cl.slots = (vs.map (ov ρ)).toArray := H.2 j _ hA
theorem oin {cl : Cell} {vs : List Value} {i : Int32} {w : Value} (e : cl.slots = (vs.map (ov ρ)).toArray) (h0 : ¬ i < 0) (hv : vs[i.toNatClampNeg]? = some w) : ¬ (i < 0 ∨ cl.slots.size ≤ i.toNatClampNeg) ∧ cl.slots[i.toNatClampNeg]? = some (ov ρ w) := by
  have hi := (List.getElem?_eq_some_iff.mp hv).1
  refine ⟨fun q => q.elim h0 fun q => ?_, ?_⟩
  · rw [e] at q; simp at q; omega
  · rw [e]; simp [hv]
theorem olen {vs : List Value} (h : vs.length < 2 ^ 31) {cl : Cell} (e : cl.slots = (vs.map (ov ρ)).toArray) : cl.slots.size.toInt32 = Int32.ofNat vs.length := by
  rw [e]; simp [Nat.toInt32]
theorem s_arraylength {j : Addr} {ty : FieldType} {vs : List Value} (hd : decode bytes pc = .ok (.arraylength, 1)) (hA : A[j]? = some (.inr (ty, vs))) : Sim l Z K ρ own mn bytes ml R (pc, L, .ref j :: S, A, c, n) (pc + 1, L, .int (Int32.ofNat vs.length) :: S, A, c, n) :=
  fun p e s m args below meth cd T locs X hx hZ hby hml hown hnm hR hF hL => by
    obtain ⟨h1, cl, h2, h3⟩ := hR.arr hA
    exact ⟨T, locs, X, hR, hF, hL, fun target k => X.arraylength hx h2.1 (State.isArrayOf_alike hZ.alike h2.2.1) (g := oF ρ m (pc, L, .ref j :: S, A, c, n)) rfl rfl (hb hby hd) target (by rw [olen h1.1 h3]; exact k)⟩
theorem s_iaload {j : Addr} {vs : List Value} {i : Int32} {w : Value} (hd : decode bytes pc = .ok (.iaload, 1)) (hA : A[j]? = some (.inr (.int, vs))) (h0 : ¬ i < 0) (hv : vs[i.toNatClampNeg]? = some w) : Sim l Z K ρ own mn bytes ml R (pc, L, .int i :: .ref j :: S, A, c, n) (pc + 1, L, w :: S, A, c, n) :=
  fun p e s m args below meth cd T locs X hx hZ hby hml hown hnm hR hF hL => by
    obtain ⟨h1, cl, h2, h3⟩ := hR.arr hA
    obtain ⟨q1, q2⟩ := oin h3 h0 hv
    exact ⟨T, locs, X, hR, hF, hL, fun target k => X.iaload hx h2.1 (State.isArrayOf_alike hZ.alike h2.2.1) h2.2.2 q1 q2 (g := oF ρ m (pc, L, .int i :: .ref j :: S, A, c, n)) rfl rfl (hb hby hd) target k⟩
theorem s_laload {j : Addr} {vs : List Value} {i : Int32} {w : Value} (hd : decode bytes pc = .ok (.laload, 1)) (hA : A[j]? = some (.inr (.long, vs))) (h0 : ¬ i < 0) (hv : vs[i.toNatClampNeg]? = some w) : Sim l Z K ρ own mn bytes ml R (pc, L, .int i :: .ref j :: S, A, c, n) (pc + 1, L, w :: S, A, c, n) :=
  fun p e s m args below meth cd T locs X hx hZ hby hml hown hnm hR hF hL => by
    obtain ⟨h1, cl, h2, h3⟩ := hR.arr hA
    obtain ⟨q1, q2⟩ := oin h3 h0 hv
    exact ⟨T, locs, X, hR, hF, hL, fun target k => X.laload hx h2.1 (State.isArrayOf_alike hZ.alike h2.2.1) h2.2.2 q1 q2 (g := oF ρ m (pc, L, .int i :: .ref j :: S, A, c, n)) rfl rfl (hb hby hd) target k⟩
theorem s_baload {j : Addr} {vs : List Value} {i : Int32} {w : Value} (hd : decode bytes pc = .ok (.baload, 1)) (hA : A[j]? = some (.inr (.byte, vs))) (h0 : ¬ i < 0) (hv : vs[i.toNatClampNeg]? = some w) : Sim l Z K ρ own mn bytes ml R (pc, L, .int i :: .ref j :: S, A, c, n) (pc + 1, L, w :: S, A, c, n) :=
  fun p e s m args below meth cd T locs X hx hZ hby hml hown hnm hR hF hL => by
    obtain ⟨h1, cl, h2, h3⟩ := hR.arr hA
    obtain ⟨q1, q2⟩ := oin h3 h0 hv
    exact ⟨T, locs, X, hR, hF, hL, fun target k => X.baloadBytes hx h2.1 (State.isArrayOf_alike hZ.alike h2.2.1) h2.2.2 q1 q2 (g := oF ρ m (pc, L, .int i :: .ref j :: S, A, c, n)) rfl rfl (hb hby hd) target k⟩
theorem s_caload {j : Addr} {vs : List Value} {i : Int32} {w : Value} (hd : decode bytes pc = .ok (.caload, 1)) (hA : A[j]? = some (.inr (.char, vs))) (h0 : ¬ i < 0) (hv : vs[i.toNatClampNeg]? = some w) : Sim l Z K ρ own mn bytes ml R (pc, L, .int i :: .ref j :: S, A, c, n) (pc + 1, L, w :: S, A, c, n) :=
  fun p e s m args below meth cd T locs X hx hZ hby hml hown hnm hR hF hL => by
    obtain ⟨h1, cl, h2, h3⟩ := hR.arr hA
    obtain ⟨q1, q2⟩ := oin h3 h0 hv
    exact ⟨T, locs, X, hR, hF, hL, fun target k => X.caload hx h2.1 (State.isArrayOf_alike hZ.alike h2.2.1) h2.2.2 q1 q2 (g := oF ρ m (pc, L, .int i :: .ref j :: S, A, c, n)) rfl rfl (hb hby hd) target k⟩
theorem s_aaload {j : Addr} {vs : List Value} {i : Int32} {w : Value} {ty : FieldType} (hd : decode bytes pc = .ok (.aaload, 1)) (hA : A[j]? = some (.inr (ty, vs))) (hty : ty.isReference = true) (h0 : ¬ i < 0) (hv : vs[i.toNatClampNeg]? = some w) : Sim l Z K ρ own mn bytes ml R (pc, L, .int i :: .ref j :: S, A, c, n) (pc + 1, L, w :: S, A, c, n) :=
  fun p e s m args below meth cd T locs X hx hZ hby hml hown hnm hR hF hL => by
    obtain ⟨h1, cl, h2, h3⟩ := hR.arr hA
    obtain ⟨q1, q2⟩ := oin h3 h0 hv
    exact ⟨T, locs, X, hR, hF, hL, fun target k => X.aaload hx h2.1 (State.isArrayOf_alike hZ.alike h2.2.1) hty h2.2.2 q1 q2 (g := oF ρ m (pc, L, .int i :: .ref j :: S, A, c, n)) rfl rfl (hb hby hd) target k⟩
theorem oRep.arrSet {h h' : Heap} {j : Nat} {ty : FieldType} {vs : List Value} {i : Nat} {w : Value} (H : oRep Z K ρ h A) (hA : A[j]? = some (.inr (ty, vs))) (hft : fits ty (ov ρ w) = true) (W : Wr h h' (ρ.1 j) i (ov ρ w)) : oRep Z K ρ h' (A.set j (.inr (ty, vs.set i w))) := by
  obtain ⟨h1, cl, h2, h3⟩ := H.arr hA
  refine H.wr W ⟨⟨by simpa using h1.1, fun u hu => (List.mem_or_eq_of_mem_set hu).elim (h1.2 u) (fun q => q ▸ hft)⟩, cl.setSlot i (ov ρ w), h2.same W, ?_⟩
  show cl.slots.setIfInBounds i (ov ρ w) = _
  rw [h3]; simp
theorem s_iastore {j : Addr} {vs : List Value} {i : Int32} {x : Int32} (hd : decode bytes pc = .ok (.iastore, 1)) (hA : A[j]? = some (.inr (.int, vs))) (h0 : ¬ i < 0) (hi : i.toNatClampNeg < vs.length) (hA' : A.set j (.inr (.int, vs.set i.toNatClampNeg (.int x))) = A') : Sim l Z K ρ own mn bytes ml R (pc, L, .int x :: .int i :: .ref j :: S, A, c, n) (pc + 1, L, S, A', c, n) :=
  fun p e s m args below meth cd T locs X hx hZ hby hml hown hnm hR hF hL => by
    obtain ⟨h1, cl, h2, h3⟩ := hR.arr hA
    have q1 : ¬ (i < 0 ∨ cl.slots.size ≤ i.toNatClampNeg) := fun q => q.elim h0 fun q => by rw [h3] at q; simp at q; omega
    obtain ⟨T', h', X', e', W, st⟩ := stI X hx hZ rfl h2 q1 (g := oF ρ m (pc, L, .int x :: .int i :: .ref j :: S, A, c, n)) rfl rfl (hb hby hd)
    subst e' hA'
    exact ⟨T', _, X', hR.arrSet (w := .int x) hA rfl W, Fr.snoc X' hF (hR.ge j), hL, st⟩
theorem s_lastore {j : Addr} {vs : List Value} {i : Int32} {x : Int64} (hd : decode bytes pc = .ok (.lastore, 1)) (hA : A[j]? = some (.inr (.long, vs))) (h0 : ¬ i < 0) (hi : i.toNatClampNeg < vs.length) (hA' : A.set j (.inr (.long, vs.set i.toNatClampNeg (.long x))) = A') : Sim l Z K ρ own mn bytes ml R (pc, L, .long x :: .int i :: .ref j :: S, A, c, n) (pc + 1, L, S, A', c, n) :=
  fun p e s m args below meth cd T locs X hx hZ hby hml hown hnm hR hF hL => by
    obtain ⟨h1, cl, h2, h3⟩ := hR.arr hA
    have q1 : ¬ (i < 0 ∨ cl.slots.size ≤ i.toNatClampNeg) := fun q => q.elim h0 fun q => by rw [h3] at q; simp at q; omega
    obtain ⟨T', h', X', e', W, st⟩ := stJ X hx hZ rfl h2 q1 (g := oF ρ m (pc, L, .long x :: .int i :: .ref j :: S, A, c, n)) rfl rfl (hb hby hd)
    subst e' hA'
    exact ⟨T', _, X', hR.arrSet (w := .long x) hA rfl W, Fr.snoc X' hF (hR.ge j), hL, st⟩
theorem s_bastore {j : Addr} {vs : List Value} {i : Int32} {x : Int32} (hd : decode bytes pc = .ok (.bastore, 1)) (hA : A[j]? = some (.inr (.byte, vs))) (h0 : ¬ i < 0) (hi : i.toNatClampNeg < vs.length) (hA' : A.set j (.inr (.byte, vs.set i.toNatClampNeg (.int x.toInt8.toInt32))) = A') : Sim l Z K ρ own mn bytes ml R (pc, L, .int x :: .int i :: .ref j :: S, A, c, n) (pc + 1, L, S, A', c, n) :=
  fun p e s m args below meth cd T locs X hx hZ hby hml hown hnm hR hF hL => by
    obtain ⟨h1, cl, h2, h3⟩ := hR.arr hA
    have q1 : ¬ (i < 0 ∨ cl.slots.size ≤ i.toNatClampNeg) := fun q => q.elim h0 fun q => by rw [h3] at q; simp at q; omega
    obtain ⟨T', h', X', e', W, st⟩ := stB X hx hZ rfl h2 q1 (g := oF ρ m (pc, L, .int x :: .int i :: .ref j :: S, A, c, n)) rfl rfl (hb hby hd)
    subst e' hA'
    exact ⟨T', _, X', hR.arrSet (w := .int x.toInt8.toInt32) hA (fits_nar_byte x) W, Fr.snoc X' hF (hR.ge j), hL, st⟩
theorem s_castore {j : Addr} {vs : List Value} {i : Int32} {x : Int32} (hd : decode bytes pc = .ok (.castore, 1)) (hA : A[j]? = some (.inr (.char, vs))) (h0 : ¬ i < 0) (hi : i.toNatClampNeg < vs.length) (hA' : A.set j (.inr (.char, vs.set i.toNatClampNeg (.int (nar .char x)))) = A') : Sim l Z K ρ own mn bytes ml R (pc, L, .int x :: .int i :: .ref j :: S, A, c, n) (pc + 1, L, S, A', c, n) :=
  fun p e s m args below meth cd T locs X hx hZ hby hml hown hnm hR hF hL => by
    obtain ⟨h1, cl, h2, h3⟩ := hR.arr hA
    have q1 : ¬ (i < 0 ∨ cl.slots.size ≤ i.toNatClampNeg) := fun q => q.elim h0 fun q => by rw [h3] at q; simp at q; omega
    obtain ⟨T', h', X', e', W, st⟩ := stC X hx hZ rfl h2 q1 (g := oF ρ m (pc, L, .int x :: .int i :: .ref j :: S, A, c, n)) rfl rfl (hb hby hd)
    subst e' hA'
    exact ⟨T', _, X', hR.arrSet (w := .int (nar .char x)) hA (fits_nar_char x) W, Fr.snoc X' hF (hR.ge j), hL, st⟩
theorem oRep.obj {h : Heap} {j cid : Nat} {vs : List Value} (H : oRep Z K ρ h A) (hA : A[j]? = some (.inl (cid, vs))) : Exa Z h (ρ.1 j) (K cid).1 ∧ ∀ (i : Nat) (f : String × String × String) (v : Value), (K cid).2[i]? = some f → vs[i]? = some v → Fld Z h (ρ.1 j) f.1 f.2.1 f.2.2 (ov ρ v) := H.2 j _ hA
theorem s_getfield {j : Addr} {cid i x : Nat} {vs : List Value} {w : Value} {O nm d : String} (wl : (Jvm.Cond.fieldLink own x O nm d).before a0 Z = true) (hf : (K cid).2[i]? = some (O, nm, d)) (hd : decode bytes pc = .ok (.getfield x, 3)) (hA : A[j]? = some (.inl (cid, vs))) (hv : vs[i]? = some w) : Sim l Z K ρ own mn bytes ml R (pc, L, .ref j :: S, A, c, n) (pc + 3, L, w :: S, A, c, n) :=
  fun p e s m args below meth cd T locs X hx hZ hby hml hown hnm hR hF hL => by
    have F := (hR.obj hA).2 i _ _ hf hv
    obtain ⟨T', X', e', st⟩ := getF X hx hZ hown (host := "") (Or.inl wl) Via.refl rfl F (g := oF ρ m (pc, L, .ref j :: S, A, c, n)) rfl rfl (hb hby hd)
    exact ⟨T', locs, X', by rw [e']; exact hR, hF, hL, st⟩
theorem oRep.fldSet {h h' : Heap} {j cid i : Nat} {vs : List Value} {f : String × String × String} {w old : Value} (H : oRep Z K ρ h A) (hK : oKOk Z a0 K cid) (hA : A[j]? = some (.inl (cid, vs))) (hf : (K cid).2[i]? = some f) (ho : vs[i]? = some old) (W : Wr h h' (ρ.1 j) (Jvm.RoadKit.slotOf Z f.1 f.2.1 f.2.2) (ov ρ w)) : oRep Z K ρ h' (A.set j (.inl (cid, vs.set i w))) := by
  obtain ⟨h1, h2⟩ := H.obj hA
  refine H.wr W ⟨h1.wr W, fun k g u hg hu => ?_⟩
  by_cases q : k = i
  · subst q
    have hg' : (K cid).2[k]? = some g := hg
    rw [hf] at hg'; cases hg'
    have hu' : (vs.set k w)[k]? = some u := hu
    rw [List.getElem?_set_self (List.getElem?_eq_some_iff.mp ho).1] at hu'; cases hu'
    exact (h2 k f old hf ho).same W
  · have hu' : (vs.set i w)[k]? = some u := hu
    rw [List.getElem?_set_ne (Ne.symm q)] at hu'
    have hg' : (K cid).2[k]? = some g := hg
    obtain ⟨l1, t1, p1⟩ := hK.1.at k g hg'
    obtain ⟨l2, t2, p2⟩ := hK.1.at i f hf
    exact (h2 k g u hg' hu').other W (Or.inr (slot_ne l1 l2 (hK.2 k i g f hg' hf q) p1 p2))
theorem s_putfield {j : Addr} {cid i x kk : Nat} {vs : List Value} {w old : Value} {O nm d : String} {ty : FieldType} (wl : (Jvm.Cond.fieldLink own x O nm d).before a0 Z = true) (hK : oKOk Z a0 K cid) (hf : (K cid).2[i]? = some (O, nm, d))
    (lay : (Jvm.Cond.lays (K cid).1 O nm d).before a0 Z = true ∨ ((Jvm.Cond.laysFinal (K cid).1 O nm d).before a0 Z = true ∧ own = O ∧ mn = "<init>")) (wi : (Jvm.Cond.instantiable (K cid).1 kk).before a0 Z = true) (hty : parseFieldDescriptor d = some ty) (hn : narrow ty (ov ρ w) = ov ρ w) (hft : fits ty (ov ρ w) = true)
    (hd : decode bytes pc = .ok (.putfield x, 3)) (hA : A[j]? = some (.inl (cid, vs))) (ho : vs[i]? = some old) (hA' : A.set j (.inl (cid, vs.set i w)) = A') : Sim l Z K ρ own mn bytes ml R (pc, L, w :: .ref j :: S, A, c, n) (pc + 3, L, S, A', c, n) :=
  fun p e s m args below meth cd T locs X hx hZ hby hml hown hnm hR hF hL => by
    have F := (hR.obj hA).2 i _ _ hf ho
    obtain ⟨T', h', X', e', W, st⟩ := putF X hx hZ hown (host := "") (Or.inl wl) Via.refl rfl F (hR.obj hA).1 (lay.imp id fun q => ⟨q.1, q.2.1, hnm.trans q.2.2⟩) wi hty hn hft (g := oF ρ m (pc, L, w :: .ref j :: S, A, c, n)) rfl rfl (hb hby hd)
    subst e' hA'
    exact ⟨T', _, X', hR.fldSet hK hA hf ho W, Fr.snoc X' hF (hR.ge j), hL, st⟩
theorem s_putfieldZ {j : Addr} {cid i x kk : Nat} {vs : List Value} {u u' : Int32} {old : Value} {O nm : String} (wl : (Jvm.Cond.fieldLink own x O nm "Z").before a0 Z = true) (hK : oKOk Z a0 K cid) (hf : (K cid).2[i]? = some (O, nm, "Z"))
    (lay : (Jvm.Cond.lays (K cid).1 O nm "Z").before a0 Z = true ∨ ((Jvm.Cond.laysFinal (K cid).1 O nm "Z").before a0 Z = true ∧ own = O ∧ mn = "<init>")) (wi : (Jvm.Cond.instantiable (K cid).1 kk).before a0 Z = true) (hu : u &&& 1 = u')
    (hd : decode bytes pc = .ok (.putfield x, 3)) (hA : A[j]? = some (.inl (cid, vs))) (ho : vs[i]? = some old) (hA' : A.set j (.inl (cid, vs.set i (.int u'))) = A') : Sim l Z K ρ own mn bytes ml R (pc, L, .int u :: .ref j :: S, A, c, n) (pc + 3, L, S, A', c, n) :=
  fun p e s m args below meth cd T locs X hx hZ hby hml hown hnm hR hF hL => by
    have F := (hR.obj hA).2 i _ _ hf ho
    obtain ⟨T', h', X', e', W, st⟩ := putFN X hx hZ hown wl Via.refl rfl F (hR.obj hA).1 (lay.imp id fun q => ⟨q.1, q.2.1, hnm.trans q.2.2⟩) wi (ty := .boolean) (v' := .int (nar .boolean u)) (by decide) rfl (fits_nar_bool u) (g := oF ρ m (pc, L, .int u :: .ref j :: S, A, c, n)) rfl rfl (hb hby hd)
    subst e' hA' hu
    exact ⟨T', _, X', hR.fldSet (w := .int (u &&& 1)) hK hA hf ho W, Fr.snoc X' hF (hR.ge j), hL, st⟩
theorem opush_ext (h : Heap) (cl : Cell) : Ext h (h.push cl) := ⟨by simp, fun a d q => by rw [Array.getElem?_push_lt (Array.getElem?_eq_some_iff.mp q).1]; exact (Array.getElem?_eq_getElem _).symm.trans q⟩
theorem opush_at (h : Heap) (cl : Cell) : (h.push cl)[h.size]? = some cl := by simp
theorem s_new {cid x sz j : Nat} {vs : List Value} (wl : (Jvm.Cond.classLink own x (K cid).1).before a0 Z = true) (wi : (Jvm.Cond.instantiable (K cid).1 sz).before a0 Z = true) (wz : (Jvm.Cond.initialized (K cid).1).before a0 Z = true) (hK : oKOk Z a0 K cid) (hv : oDflt (K cid).2 vs)
    (hd : decode bytes pc = .ok (.new x, 3)) (hj : A.length = j) (hc : c + 1 ≤ R.cells) (hn : n + sz ≤ R.slots) (hA' : A ++ [.inl (cid, vs)] = A') : Sim l Z K ρ own mn bytes ml R (pc, L, S, A, c, n) (pc + 3, L, .ref j :: S, A', c + 1, n + sz) :=
  fun p e s m args below meth cd T locs X hx hZ hby hml hown hnm hR hF hL => by
    obtain ⟨vm', cC, kC, h1, h2, h3, h4, X', st⟩ := X.newCold hx hown (mv hZ wl) (mv hZ wi) (mv hZ wz) (g := oF ρ m (pc, L, S, A, c, n)) rfl (hb hby hd) hc hn
    subst hA' hj
    rw [hZ.alike.findClass] at h1
    obtain ⟨kZ, z1, -⟩ := Vm.findClass_spec h1
    obtain ⟨k', z2, z3⟩ := hZ.alike.2.2 _ _ z1
    cases h2.symm.trans z2
    have ei : kC.instanceTypes = kZ.instanceTypes := by rw [z3]
    have hN := opush_at T.heap { cls := cC, slots := kC.instanceTypes.map defaultValue, vm := .none }
    have hrep := hR.push (opush_ext T.heap { cls := cC, slots := kC.instanceTypes.map defaultValue, vm := .none }) (by simp) (c := .inl (cid, vs)) ⟨⟨_, kZ, hN, h1, z1, rfl, fun _ => by simp [ei]⟩, fun i f w hf hw => by
      obtain ⟨t, ht, rfl⟩ := hv.at i f w hf hw
      obtain ⟨lf, -⟩ := hK.1.at i f hf
      obtain ⟨c1, k1, cf, kf, i', f', a1, a2, a3, a4, a5, a6, -⟩ := lf.spec
      cases h1.symm.trans a1
      cases z1.symm.trans a2
      rw [ov_dflt]
      exact ⟨_, cf, kf, i', f', hN, a3, a4, by simp, rfl, a5, by simp [ei, a6, (State.fieldFound?_type a3 ht).2]⟩⟩
    refine ⟨_, locs, X', hrep, hF, hL, fun target k => st target ?_⟩
    have e0 : T.heap.size = ρ.1 A.length := hR.1.1
    rw [e0]; exact k
theorem s_newarray {aty : ArrayType} {i : Int32} {j q cap : Nat} (w : (Jvm.Cond.arrayClass (newarray.typeOf aty)).before a0 Z = true) (hd : decode bytes pc = .ok (.newarray aty, 2)) (hj : A.length = j) (h0 : ¬ i < 0) (hq : i.toNatClampNeg = q) (hcap : q ≤ cap) (hb8 : cap * 8 ≤ 536870912) (hc : c + 1 ≤ R.cells) (hn : n + cap ≤ R.slots)
    (hA' : A ++ [.inr (newarray.typeOf aty, List.replicate q (defaultValue (newarray.typeOf aty)))] = A') : Sim l Z K ρ own mn bytes ml R (pc, L, .int i :: S, A, c, n) (pc + 2, L, .ref j :: S, A', c + 1, n + cap) :=
  fun p e s m args below meth cd T locs X hx hZ hby hml hown hnm hR hF hL => by
    have hcb : componentBytes (newarray.typeOf aty) ≤ 8 := by cases aty <;> decide
    subst hq
    obtain ⟨cA, kA, comp, h1, h2, h3, X', st⟩ := X.newarrayPrim hx (mvA hZ w) (g := oF ρ m (pc, L, .int i :: S, A, c, n)) rfl (hb hby hd) rfl h0 (Nat.le_trans (Nat.mul_le_mul hcap hcb) hb8) hc (by show n + _ ≤ _; omega)
    subst hA' hj
    rw [hZ.alike.findClass] at h1
    obtain ⟨kZ, z1, -⟩ := Vm.findClass_spec h1
    obtain ⟨k', z2, z3⟩ := hZ.alike.2.2 _ _ z1
    cases h2.symm.trans z2
    have hrep := hR.push (opush_ext T.heap { cls := cA, slots := Array.replicate i.toNatClampNeg (defaultValue (newarray.typeOf aty)), vm := .none }) (by simp) (c := .inr (newarray.typeOf aty, List.replicate i.toNatClampNeg (defaultValue (newarray.typeOf aty)))) ⟨⟨by show (List.replicate _ _).length < 2 ^ 31; rw [List.length_replicate]; omega, fun u hu => by rw [(List.mem_replicate.mp hu).2, ov_dflt]; cases aty <;> rfl⟩, _, ⟨opush_at _ _, ⟨by simp, kZ, z1, comp, by rw [← h3, z3]⟩, by simp⟩, by simp [ov_dflt]⟩
    refine ⟨_, locs, X'.more (Nat.le_refl _) (by show n + _ ≤ n + cap; omega), hrep, hF, hL, fun target k => st target ?_⟩
    have e0 : T.heap.size = ρ.1 A.length := hR.1.1
    rw [e0]; exact k
theorem s_anewarray {C : String} {x : Nat} {i : Int32} {j q : Nat} (w1 : (Jvm.Cond.classLink own x C).before a0 Z = true) (w2 : (Jvm.Cond.arrayOver (.object C)).before a0 Z = true) (hd : decode bytes pc = .ok (.anewarray x, 3)) (hj : A.length = j) (h0 : ¬ i < 0) (hq : i.toNatClampNeg = q) (hb8 : q * 8 ≤ 536870912) (hc : c + 1 ≤ R.cells) (hn : n + q ≤ R.slots)
    (hA' : A ++ [.inr (.object C, List.replicate q .null)] = A') : Sim l Z K ρ own mn bytes ml R (pc, L, .int i :: S, A, c, n) (pc + 3, L, .ref j :: S, A', c + 1, n + q) :=
  fun p e s m args below meth cd T locs X hx hZ hby hml hown hnm hR hF hL => by
    have w2' : (Jvm.Cond.arrayOver (.object C)).before args s = true := Cond.arrayOver_alike hZ.alike w2
    subst hq
    obtain ⟨vm₁, cA, kA, comp, -, h1, h2, h3, h4, X', st⟩ := X.anewarrayRefK hx hown (mv hZ w1) w2' (g := oF ρ m (pc, L, .int i :: S, A, c, n)) rfl (hb hby hd) rfl h0 (by omega) hc hn
    subst hA' hj
    rw [hZ.alike.findClass] at h1
    obtain ⟨kZ, z1, -⟩ := Vm.findClass_spec h1
    obtain ⟨k', z2, z3⟩ := hZ.alike.2.2 _ _ z1
    cases h2.symm.trans z2
    have kk : kZ.kind = .array comp (.object C) := by rw [← h3, z3]
    have hrep := hR.push (opush_ext T.heap { cls := cA, slots := Array.replicate i.toNatClampNeg .null, vm := .none }) (by simp) (c := .inr (.object C, List.replicate i.toNatClampNeg .null)) ⟨⟨by show (List.replicate _ _).length < 2 ^ 31; rw [List.length_replicate]; omega, fun u hu => by rw [(List.mem_replicate.mp hu).2]; rfl⟩, _, ⟨opush_at _ _, ⟨by simp, kZ, z1, comp, kk⟩, by simp⟩, by simp [ov]⟩
    refine ⟨_, locs, X', hrep, hF, hL, fun target k => st target ?_⟩
    have e0 : T.heap.size = ρ.1 A.length := hR.1.1
    rw [e0]; exact k
theorem s_initO {x W : Nat} {j : Addr} (w1 : (Jvm.Cond.methodLink own x Lib.objectInit).before a0 Z = true) (w2 : (Jvm.Cond.instanceMethod Lib.objectInit).before a0 Z = true) (w3 : (Jvm.Cond.code Lib.objectInit ⟨#[0xb1]⟩ 1 none).before a0 Z = true) (hd : decode bytes pc = .ok (.invokespecial x, 3)) (hf : 1 ≤ R.frames) (hW : (S.map fun v => v.category).sum = W) (hl : W + 12 ≤ R.locals) : Sim l Z K ρ own mn bytes ml R (pc, L, .ref j :: S, A, c, n) (pc + 3, L, S, A, c, n) :=
  fun p e s m args below meth cd T locs X hx hZ hby hml hown hnm hR hF hL => by
    obtain ⟨T', X', e', st⟩ := initO X hx hZ hown w1 w2 w3 rfl (g := oF ρ m (pc, L, .ref j :: S, A, c, n)) rfl (by rw [hml, ← hL]; simp) rfl (hb hby hd) hf (W := W) (by rw [← hW]; simp [Function.comp_def, ov_cat]) hl
    exact ⟨T', locs, X', by rw [e']; exact hR, hF, hL, st⟩
theorem ocat (S : List Value) : ((S.map (ov ρ)).map fun v => v.category).sum = (S.map fun v => v.category).sum := by simp [Function.comp_def, ov_cat]
theorem otl (v : Option Value) : (v.map (ov ρ)).toList = v.toList.map (ov ρ) := by cases v <;> rfl
theorem s_callS {x W : Nat} {y : MethodName} {by' : ByteArray} {ml' : Nat} {rt : Option FieldType} {rm : Room} {as : List Value} {S0 : List Value} (w1 : (Jvm.Cond.methodLink own x y).before a0 Z = true) (w2 : (Jvm.Cond.static y).before a0 Z = true) (w3 : (Jvm.Cond.initialized y.cls).before a0 Z = true) (w4 : (Jvm.Cond.code y by' ml' rt).before a0 Z = true)
    (hy : y.cls ≠ "java/lang/invoke/MethodHandle" ∧ y.cls ≠ "java/lang/invoke/VarHandle") (hlen : ∀ sig, parseMethodDescriptor y.desc = some sig → as.length = sig.parameters.length) (hd : decode bytes pc = .ok (.invokestatic x, 3)) (hM : Met l Z K ρ y by' ml' rt rm [] as A v A')
    (hS : S0 = as.reverse ++ S) (hW : (S.map fun v => v.category).sum = W) (hf : rm.frames + 1 ≤ R.frames) (hl : W + (ml' + 11) + rm.locals ≤ R.locals) (hc : c + rm.cells ≤ R.cells) (hn : n + rm.slots ≤ R.slots) : Sim l Z K ρ own mn bytes ml R (pc, L, S0, A, c, n) (pc + 3, L, v.toList ++ S, A', c + rm.cells, n + rm.slots) :=
  fun p e s m args below meth cd T locs X hx hZ hby hml hown hnm hR hF hL => by
    subst hS
    obtain ⟨_, _, ⟨T1, L1, k1, n1⟩, -, X1, ⟨Lc, hQ, l1, y1, z1⟩, st⟩ := Jvm.LawKit.callS X hx (y := y) hown (mvT hZ w1) (mvT hZ w2) (mvT hZ w3) (mvT hZ w4) hy (backOf (W := W) (Q := fun v' h L => v' = v.map (ov ρ) ∧ Fr (ρ.1 0) L ∧ oRep Z K ρ h A') (hM T.heap hR) hZ w4 w3 hf hl) (g := oF ρ m (pc, L, as.reverse ++ S, A, c, n)) rfl (by rw [hml, ← hL]; simp) (argsL := as.map (ov ρ)) (rest := S.map (ov ρ)) (fun sig q => by rw [List.length_map]; exact hlen sig q) (by show (as.reverse ++ S).map (ov ρ) = _; simp) (by show 2 * 0 + _ ≤ _; rw [ocat, hW]; omega) (hb hby hd) (fun _ _ => ⟨rfl, rfl, hc, hn⟩)
    dsimp only [Pt.U, Pt.locs, Pt.cells, Pt.slots] at X1 l1 y1 z1 st hQ
    subst l1 y1 z1
    obtain ⟨rfl, N1, R1⟩ := hQ
    refine ⟨T1, _, X1, R1, Fr.app hF N1, hL, fun target k => st target ?_⟩
    have e : (v.toList ++ S).map (ov ρ) = (v.map (ov ρ)).toList ++ S.map (ov ρ) := by rw [List.map_append, otl]
    rw [← e]; exact k
theorem s_callI {x W : Nat} {y : MethodName} {by' : ByteArray} {ml' : Nat} {rm : Room} {as : List Value} {j : Addr} {S0 : List Value} (hy1 : y.name = "<init>") (w1 : (Jvm.Cond.methodLink own x y).before a0 Z = true) (w2 : (Jvm.Cond.instanceMethod y).before a0 Z = true) (w3 : (Jvm.Cond.initialized y.cls).before a0 Z = true) (w4 : (Jvm.Cond.code y by' ml' none).before a0 Z = true)
    (hy : y.cls ≠ "java/lang/invoke/MethodHandle" ∧ y.cls ≠ "java/lang/invoke/VarHandle") (hlen : ∀ sig, parseMethodDescriptor y.desc = some sig → as.length = sig.parameters.length) (hd : decode bytes pc = .ok (.invokespecial x, 3)) (hM : Met l Z K ρ y by' ml' none rm [] (.ref j :: as) A v A')
    (hS : S0 = as.reverse ++ .ref j :: S) (hW : (S.map fun v => v.category).sum = W) (hf : rm.frames + 1 ≤ R.frames) (hl : W + (ml' + 11) + rm.locals ≤ R.locals) (hc : c + rm.cells ≤ R.cells) (hn : n + rm.slots ≤ R.slots) : Sim l Z K ρ own mn bytes ml R (pc, L, S0, A, c, n) (pc + 3, L, v.toList ++ S, A', c + rm.cells, n + rm.slots) :=
  fun p e s m args below meth cd T locs X hx hZ hby hml hown hnm hR hF hL => by
    subst hS
    obtain ⟨_, _, ⟨T1, L1, k1, n1⟩, -, X1, ⟨Lc, hQ, l1, y1, z1⟩, st⟩ := X.specialBack hx (y := y) hy1 hown (mvT hZ w1) (mvT hZ w2) (mvT hZ w4) hy (backOf (W := W) (Q := fun v' h L => v' = v.map (ov ρ) ∧ Fr (ρ.1 0) L ∧ oRep Z K ρ h A') (hM T.heap hR) hZ w4 w3 hf hl) (g := oF ρ m (pc, L, as.reverse ++ .ref j :: S, A, c, n)) rfl (by rw [hml, ← hL]; simp) (Steps.refl _) (a := ρ.1 j) (argsL := as.map (ov ρ)) (rest := S.map (ov ρ)) (fun sig q => by rw [List.length_map]; exact hlen sig q) (by show (as.reverse ++ .ref j :: S).map (ov ρ) = _; simp [ov]) (by show 2 * 0 + _ ≤ _; rw [ocat, hW]; omega) (hb hby hd) (fun _ _ => ⟨rfl, rfl, hc, hn⟩)
    dsimp only [Pt.U, Pt.locs, Pt.cells, Pt.slots] at X1 l1 y1 z1 st hQ
    subst l1 y1 z1
    obtain ⟨rfl, N1, R1⟩ := hQ
    refine ⟨T1, _, X1, R1, Fr.app hF N1, hL, fun target k => st.trans ?_⟩
    have e : (v.toList ++ S).map (ov ρ) = (v.map (ov ρ)).toList ++ S.map (ov ρ) := by rw [List.map_append, otl]
    rw [← e]; exact k
theorem s_callV {x W cid : Nat} {y : MethodName} {by' : ByteArray} {ml' : Nat} {rt : Option FieldType} {rm : Room} {as : List Value} {j : Addr} {vs : List Value} {S0 : List Value} (w1 : (Jvm.Cond.methodLink own x y).before a0 Z = true) (w2 : (Jvm.Cond.instanceMethod y).before a0 Z = true) (w3 : (Jvm.Cond.initialized y.cls).before a0 Z = true) (w4 : (Jvm.Cond.code y by' ml' rt).before a0 Z = true)
    (w5 : (Jvm.Cond.declares y).before a0 Z = true) (w6 : (Jvm.Cond.selects (K cid).1 y y).before a0 Z = true) (hy : y.cls ≠ "java/lang/invoke/MethodHandle" ∧ y.cls ≠ "java/lang/invoke/VarHandle") (hC : (K cid).1 = y.cls) (hlen : ∀ sig, parseMethodDescriptor y.desc = some sig → as.length = sig.parameters.length) (hd : decode bytes pc = .ok (.invokevirtual x, 3)) (hA : A[j]? = some (.inl (cid, vs))) (hM : Met l Z K ρ y by' ml' rt rm [] (.ref j :: as) A v A')
    (hS : S0 = as.reverse ++ .ref j :: S) (hW : (S.map fun v => v.category).sum = W) (hf : rm.frames + 1 ≤ R.frames) (hl : W + (ml' + 11) + rm.locals ≤ R.locals) (hc : c + rm.cells ≤ R.cells) (hn : n + rm.slots ≤ R.slots) : Sim l Z K ρ own mn bytes ml R (pc, L, S0, A, c, n) (pc + 3, L, v.toList ++ S, A', c + rm.cells, n + rm.slots) :=
  fun p e s m args below meth cd T locs X hx hZ hby hml hown hnm hR hF hL => by
    subst hS
    obtain ⟨cq, kq, qa, qb, qc⟩ := isOf hZ rfl (hR.obj hA).1
    have w6' : (Jvm.Cond.selects y.cls y y).before a0 Z = true := by rw [← hC]; exact w6
    obtain ⟨_, _, ⟨T1, L1, k1, n1⟩, -, X1, ⟨Lc, hQ, l1, y1, z1⟩, st⟩ := X.virtualBack hx (y := y) (z := y) hown (mvT hZ w1) (mvT hZ w5) (notFace_of_selects (args := #[]) (mvT hZ w6')) (mvT hZ w6) (mvT hZ w2) hy (backOf (W := W) (Q := fun v' h L => v' = v.map (ov ρ) ∧ Fr (ρ.1 0) L ∧ oRep Z K ρ h A') (hM T.heap hR) hZ w4 w3 hf hl) qa qc (g := oF ρ m (pc, L, as.reverse ++ .ref j :: S, A, c, n)) rfl (by rw [hml, ← hL]; simp) (Steps.refl _) (argsL := as.map (ov ρ)) (rest := S.map (ov ρ)) (fun sig q => by rw [List.length_map]; exact hlen sig q) (by show (as.reverse ++ .ref j :: S).map (ov ρ) = _; simp [ov]) (by show 2 * 0 + _ ≤ _; rw [ocat, hW]; omega) (hb hby hd) (fun _ _ => ⟨rfl, rfl, hc, hn⟩)
    dsimp only [Pt.U, Pt.locs, Pt.cells, Pt.slots] at X1 l1 y1 z1 st hQ
    subst l1 y1 z1
    obtain ⟨rfl, N1, R1⟩ := hQ
    refine ⟨T1, _, X1, R1, Fr.app hF N1, hL, fun target k => st.trans ?_⟩
    have e : (v.toList ++ S).map (ov ρ) = (v.map (ov ρ)).toList ++ S.map (ov ρ) := by rw [List.map_append, otl]
    rw [← e]; exact k
theorem s_callP {x W cid kk : Nat} {y : MethodName} {by' : ByteArray} {ml' : Nat} {rt : Option FieldType} {rm : Room} {as : List Value} {j : Addr} {vs : List Value} {S0 : List Value} (w1 : (Jvm.Cond.methodLink own x y).before a0 Z = true) (w2 : (Jvm.Cond.instanceMethod y).before a0 Z = true) (w3 : (Jvm.Cond.initialized y.cls).before a0 Z = true) (w4 : (Jvm.Cond.code y by' ml' rt).before a0 Z = true)
    (w5 : (Jvm.Cond.privateMethod y).before a0 Z = true) (w6 : (Jvm.Cond.instantiable y.cls kk).before a0 Z = true) (hy : y.cls ≠ "java/lang/invoke/MethodHandle" ∧ y.cls ≠ "java/lang/invoke/VarHandle") (hlen : ∀ sig, parseMethodDescriptor y.desc = some sig → as.length = sig.parameters.length) (hd : decode bytes pc = .ok (.invokevirtual x, 3)) (hA : A[j]? = some (.inl (cid, vs))) (hM : Met l Z K ρ y by' ml' rt rm [] (.ref j :: as) A v A')
    (hS : S0 = as.reverse ++ .ref j :: S) (hW : (S.map fun v => v.category).sum = W) (hf : rm.frames + 1 ≤ R.frames) (hl : W + (ml' + 11) + rm.locals ≤ R.locals) (hc : c + rm.cells ≤ R.cells) (hn : n + rm.slots ≤ R.slots) : Sim l Z K ρ own mn bytes ml R (pc, L, S0, A, c, n) (pc + 3, L, v.toList ++ S, A', c + rm.cells, n + rm.slots) :=
  fun p e s m args below meth cd T locs X hx hZ hby hml hown hnm hR hF hL => by
    subst hS
    obtain ⟨cq, q1, q2⟩ := (hR.obj hA).1.cell
    have wi' : (Jvm.Cond.instantiable y.cls kk).before args s = true := mv hZ w6
    obtain ⟨c1, k1, f1, f2, -, f4, -⟩ := Cond.instantiable_spec wi'
    have hni : k1.isInterface = false := by cases q : k1.isInterface <;> simp [q] at f4 ⊢
    have hpv := Cond.privateMethod_at (mvP (args := args) hZ w5)
    have w2' : (Jvm.Cond.instanceMethod y).before args s = true := mvT hZ w2
    have w6' : (Jvm.Cond.selects y.cls y y).before args s = true := selects_self_of_private f1 f2 hni hpv w2' hy
    obtain ⟨_, _, ⟨T1, L1, k1, n1⟩, -, X1, ⟨Lc, hQ, l1, y1, z1⟩, st⟩ := X.privateBack hx (y := y) hown (mvT hZ w1) w2' w6' hpv (mvT hZ w4) hy (backOf (W := W) (Q := fun v' h L => v' = v.map (ov ρ) ∧ Fr (ρ.1 0) L ∧ oRep Z K ρ h A') (hM T.heap hR) hZ w4 w3 hf hl) (g := oF ρ m (pc, L, as.reverse ++ .ref j :: S, A, c, n)) rfl (by rw [hml, ← hL]; simp) (Steps.refl _) (a := ρ.1 j) q1 q2 (argsL := as.map (ov ρ)) (rest := S.map (ov ρ)) (fun sig q => by rw [List.length_map]; exact hlen sig q) (by show (as.reverse ++ .ref j :: S).map (ov ρ) = _; simp [ov]) (by show 2 * 0 + _ ≤ _; rw [ocat, hW]; omega) (hb hby hd) (fun _ _ => ⟨rfl, rfl, hc, hn⟩)
    dsimp only [Pt.U, Pt.locs, Pt.cells, Pt.slots] at X1 l1 y1 z1 st hQ
    subst l1 y1 z1
    obtain ⟨rfl, N1, R1⟩ := hQ
    refine ⟨T1, _, X1, R1, Fr.app hF N1, hL, fun target k => st.trans ?_⟩
    have e : (v.toList ++ S).map (ov ρ) = (v.map (ov ρ)).toList ++ S.map (ov ρ) := by rw [List.map_append, otl]
    rw [← e]; exact k
theorem orun1 (cl : Cell) (i : Nat) (w : Value) : cl.storeRun i [w] = cl.setSlot i w := rfl
theorem s_arraycopy1 {x W : Nat} {j k : Addr} {vs us : List Value} {sp dp : Int32} {w : Value} (w1 : (Jvm.Cond.methodLink own x Jvm.Stand.acN).before a0 Z = true) (w2 : (Jvm.Cond.native Jvm.Stand.acN).before a0 Z = true) (w3 : (Jvm.Cond.static Jvm.Stand.acN).before a0 Z = true) (w4 : (Jvm.Cond.initialized "java/lang/System").before a0 Z = true)
    (hd : decode bytes pc = .ok (.invokestatic x, 3)) (hA : A[j]? = some (.inr (.int, vs))) (hB : A[k]? = some (.inr (.int, us))) (h1 : ¬ sp < 0) (h2 : ¬ dp < 0) (hv : vs[sp.toNatClampNeg]? = some w) (hi : dp.toNatClampNeg < us.length) (hf : 1 ≤ R.frames) (hW : (S.map fun v => v.category).sum = W) (hl : W + 18 ≤ R.locals)
    (hA' : A.set k (.inr (.int, us.set dp.toNatClampNeg w)) = A') : Sim l Z K ρ own mn bytes ml R (pc, L, .int 1 :: .int dp :: .ref k :: .int sp :: .ref j :: S, A, c, n) (pc + 3, L, S, A', c, n) :=
  fun p e s m args below meth cd T locs X hx hZ hby hml hown hnm hR hF hL => by
    subst hA'
    obtain ⟨⟨a1, a1'⟩, cs, a2, a3⟩ := hR.arr hA
    obtain ⟨⟨b1, b1'⟩, ct, b2, b3⟩ := hR.arr hB
    obtain ⟨q1, q2⟩ := oin a3 h1 hv
    have hw : fits .int (ov ρ w) = true := a1' w (List.mem_of_getElem? hv)
    obtain ⟨z, ez⟩ := fit_I hw (Or.inl rfl)
    obtain ⟨os, ks, hks, sc, hsk⟩ := State.isArrayOf_alike hZ.alike a2.2.1
    obtain ⟨od, kd, hkd, dc, hdk⟩ := State.isArrayOf_alike hZ.alike b2.2.1
    have nat : ∀ {x : Int32}, ¬ x < 0 → x.toInt = x.toNatClampNeg := fun {x} q => by
      rw [Int32.lt_iff_toInt_lt] at q; have : (0 : Int32).toInt = 0 := rfl
      simp only [Int32.toNatClampNeg]; omega
    have sz1 : cs.slots.size = vs.length := by rw [a3]; simp
    have sz2 : ct.slots.size = us.length := by rw [b3]; simp
    have e1 : (1 : Int32).toInt = 1 := rfl
    have e1' : (1 : Int32).toNatClampNeg = 1 := rfl
    have hlt := (List.getElem?_eq_some_iff.mp hv).1
    have hgd : cs.slots.getD sp.toNatClampNeg .null = .int z := by rw [Array.getD_eq_getD_getElem?, q2, ez]; rfl
    have hst : cs.stretch sp.toNatClampNeg (1 : Int32).toNatClampNeg = [.int z] := by
      show [cs.slots.getD (sp.toNatClampNeg + 0) .null] = _
      rw [Nat.add_zero, hgd]
    obtain ⟨vm₁, hW₁, X', st⟩ := X.arraycopyK hx hown (mvT hZ w1) (mvT hZ w2) (mvT hZ w3) (mvT hZ w4) (srcPos := sp) (destPos := dp) (n := 1) a2.1 b2.1 os od a2.2.2 b2.2.2 hks hkd hsk hdk rfl h1 h2 (by decide)
      (by rw [nat h1, e1, sz1]; omega) (by rw [nat h2, e1, sz2]; omega) (fun vm hv i hi => by
        have hi0 : i = 0 := by rw [e1'] at hi; omega
        subst hi0
        rw [Nat.add_zero, hgd]; exact ⟨rfl, trivial⟩) (g := oF ρ m (pc, L, .int 1 :: .int dp :: .ref k :: .int sp :: .ref j :: S, A, c, n)) rfl (by rw [hml, ← hL]; simp) rfl (hb hby hd) hf (by show 2 * 0 + _ + (7 + 11) ≤ _; rw [ocat, hW]; omega)
    have ecp : copied cs ct sp dp 1 = ct.setSlot dp.toNatClampNeg (ov ρ w) := by
      show ct.storeRun _ (cs.stretch _ _) = _
      rw [hst, orun1, ez]
    rw [ecp] at X' st
    have hWr : Wr T.heap (T.heap.setIfInBounds (ρ.1 k) (ct.setSlot dp.toNatClampNeg (ov ρ w))) (ρ.1 k) dp.toNatClampNeg (ov ρ w) := ⟨ct, b2.1, b2.plain, by rw [sz2]; exact hi, rfl⟩
    refine ⟨_, _, X', hR.arrSet hB hw hWr, Fr.app hF fun y hy => ?_, hL, st⟩
    have := Jvm.Stand.copyLocs_base hy
    rw [this]; exact hR.ge k
/-! the returns -/
theorem e_return (hd : decode bytes pc = .ok (.return_, 1)) (hr : ret = none) (hc : c ≤ R.cells) (hn : n ≤ R.slots) : Ends l Z K ρ own mn bytes ml R ret (pc, L, [], A, c, n) none A :=
  fun p e s m args below meth cd T locs X hx hZ hby hml hown hnm hR hF hL hrt hlk => by
    obtain ⟨fs, hl, hrun, hended, hW, hsame⟩ := X.leave (v := none) (fun _ => rfl) hlk
    exact ⟨_, locs, X.returnOut hx (hrt.trans hr) (hb hby hd) hl, hrun, hended, hF, hR, hW, hsame.mono hc hn⟩
theorem e_ireturn {z : Int32} (hd : decode bytes pc = .ok (.ireturn, 1)) (hr : ret = some .int) (hc : c ≤ R.cells) (hn : n ≤ R.slots) : Ends l Z K ρ own mn bytes ml R ret (pc, L, .int z :: S, A, c, n) (some (.int z)) A :=
  fun p e s m args below meth cd T locs X hx hZ hby hml hown hnm hR hF hL hrt hlk => by
    obtain ⟨fs, hl, hrun, hended, hW, hsame⟩ := X.leave (v := some (.int z)) (fun h => by rw [hrt, hr] at h; cases h) hlk
    exact ⟨_, locs, retOut X hx (t := .int) (hrt.trans hr) rfl (Or.inl ⟨rfl, Or.inl rfl, z, rfl⟩) (hb hby hd) hl, hrun, hended, hF, hR, hW, hsame.mono hc hn⟩
theorem e_nreturn {z u : Int32} {t : FieldType} (hd : decode bytes pc = .ok (.ireturn, 1)) (hr : ret = some t) (ht : t = .boolean ∨ t = .byte ∨ t = .char ∨ t = .short) (hu : nar t z = u) (hc : c ≤ R.cells) (hn : n ≤ R.slots) : Ends l Z K ρ own mn bytes ml R ret (pc, L, .int z :: S, A, c, n) (some (.int u)) A :=
  fun p e s m args below meth cd T locs X hx hZ hby hml hown hnm hR hF hL hrt hlk => by
    subst hu
    obtain ⟨fs, hl, hrun, hended, hW, hsame⟩ := X.leave (v := some (.int (nar t z))) (fun h => by rw [hrt, hr] at h; cases h) hlk
    exact ⟨_, locs, retN X hx (t := t) (hrt.trans hr) ht (hb hby hd) hl, hrun, hended, hF, hR, hW, hsame.mono hc hn⟩
theorem e_lreturn {z : Int64} (hd : decode bytes pc = .ok (.lreturn, 1)) (hr : ret = some .long) (hc : c ≤ R.cells) (hn : n ≤ R.slots) : Ends l Z K ρ own mn bytes ml R ret (pc, L, .long z :: S, A, c, n) (some (.long z)) A :=
  fun p e s m args below meth cd T locs X hx hZ hby hml hown hnm hR hF hL hrt hlk => by
    obtain ⟨fs, hl, hrun, hended, hW, hsame⟩ := X.leave (v := some (.long z)) (fun h => by rw [hrt, hr] at h; cases h) hlk
    exact ⟨_, locs, retOut X hx (t := .long) (hrt.trans hr) rfl (Or.inr (Or.inl ⟨rfl, rfl, z, rfl⟩)) (hb hby hd) hl, hrun, hended, hF, hR, hW, hsame.mono hc hn⟩
theorem e_areturn {w : Value} {t : FieldType} (hd : decode bytes pc = .ok (.areturn, 1)) (hr : ret = some t) (ht : t.isReference = true) (hw : (ov ρ w).isRef = true) (hc : c ≤ R.cells) (hn : n ≤ R.slots) : Ends l Z K ρ own mn bytes ml R ret (pc, L, w :: S, A, c, n) (some w) A :=
  fun p e s m args below meth cd T locs X hx hZ hby hml hown hnm hR hF hL hrt hlk => by
    have hw' := hw
    obtain ⟨fs, hl, hrun, hended, hW, hsame⟩ := X.leave (v := some (ov ρ w)) (fun h => by rw [hrt, hr] at h; cases h) hlk
    exact ⟨_, locs, retOut X hx (t := t) (hrt.trans hr) (by cases t <;> first | rfl | cases ht) (Or.inr (Or.inr (Or.inr (Or.inr ⟨rfl, ht, hw'⟩)))) (hb hby hd) hl, hrun, hended, hF, hR, hW, hsame.mono hc hn⟩
/-! from the walk to the contract -/
def oE0 : List Value → List Slot
  | [] => []
  | v :: vs => if v.category = 2 then .val v :: .second :: oE0 vs else .val v :: oE0 vs
def oE (as : List Value) (ml : Nat) : List Slot := oE0 as ++ List.replicate (ml - (oE0 as).length) .unset
theorem oE0_ok (as : List Value) (acc : List Slot) : ((as.map (ov ρ)).toArray.foldl (init := acc.toArray) fun acc v => if v.category = 2 then (acc.push (.val v)).push .second else acc.push (.val v)) = (acc ++ (oE0 as).map (osl ρ)).toArray := by
  induction as generalizing acc with
  | nil => simp [oE0]
  | cons v vs ih =>
    have h := ih
    simp only [List.map_cons, List.foldl_toArray', List.foldl_cons, ov_cat] at h ⊢
    by_cases q : v.category = 2
    · have e : (acc.toArray.push (Slot.val (ov ρ v))).push .second = (acc ++ [Slot.val (ov ρ v), Slot.second]).toArray := by simp
      rw [if_pos q, e, h]; simp [oE0, q, osl]
    · have e : acc.toArray.push (Slot.val (ov ρ v)) = (acc ++ [Slot.val (ov ρ v)]).toArray := by simp
      rw [if_neg q, e, h]; simp [oE0, q, osl]
theorem oentry {as : List Value} {L0 : List Slot} (h : oE as ml = L0) (m : MethodId) : entryFrame m (as.map (ov ρ)).toArray ml = mkF m 0 (L0.map (osl ρ)).toArray [] := by
  subst h
  have e := oE0_ok (ρ := ρ) as []
  have q : argsToLocals (as.map (ov ρ)).toArray ml = ((oE as ml).map (osl ρ)).toArray := by
    have e' : ∀ X : Array Slot, X = (([] : List Slot) ++ (oE0 as).map (osl ρ)).toArray → X ++ Array.replicate (ml - X.size) Slot.unset = ((oE as ml).map (osl ρ)).toArray := fun X hX => by rw [hX]; simp [oE, osl]
    have e2 := e' _ e
    exact e2
  show ({ method := m, pc := 0, locals := argsToLocals _ ml, stack := [], locked := none } : JFrame) = _
  rw [q]
theorem Met.of {y : MethodName} {rm : Room} {ws : List Jvm.Cond} {as : List Value} {L0 : List Slot} (hp : plainFor y = true) (he : ∀ m, entryFrame m (as.map (ov ρ)).toArray ml = mkF m 0 (L0.map (osl ρ)).toArray []) (hL0 : L0.length = ml)
    (hE : Ends l Z K ρ y.cls y.name bytes ml rm ret (0, L0, [], A, 0, 0) v A') : Met l Z K ρ y bytes ml ret rm ws as A v A' := fun h0 hR0 => by
  refine MetFree.of_bodySF hp hisR ?_
  intro p e s m args below meth c s₁ Bd hml0 hP hK
  obtain ⟨rfl, hZ, hh⟩ := hP
  have hown : s.vm.findClass y.cls = some m.cls := findClass_of_methodNamed Bd.named
  have hnm := (name_of_methodNamed Bd.named Bd.method).1
  have X0 : Stand p l e rm s m (as.map (ov ρ)).toArray below meth c s₁ [] 0 0 := Stand.of_body Bd
  have e0 : s₁.heap = h0 := by rw [← hh, Bd.state]; rfl
  obtain ⟨s2, L, g1, g2, g3, g4, g5, g6, g7⟩ := hE p e s m _ below meth c s₁ [] X0 Bd.exec hZ Bd.bytes hml0 hown hnm (by show oRep Z K ρ s₁.heap A; rw [e0]; exact hR0) (Fr.nil _) hL0 Bd.returns Bd.notSynchronized
  refine ⟨s2, _, castTop (he m) g1, g2, g3, _, L, rfl, ⟨rfl, g4, g5⟩, ⟨_, rfl⟩, g6, g7⟩
theorem Met.ofE {y : MethodName} {rm : Room} {ws : List Jvm.Cond} {as : List Value} {L0 : List Slot} (hp : plainFor y = true) (he : ∀ m, entryFrame m (as.map (ov ρ)).toArray ml = mkF m 0 (L0.map (osl ρ)).toArray []) (hL0 : L0.length = ml)
    (hE : EndsE l Z K ρ y.cls y.name bytes ml rm ret (0, L0, [], A, 0, 0) v) : ∃ A', Met l Z K ρ y bytes ml ret rm ws as A v A' := hE.imp fun _ h => Met.of hp he hL0 h
end Layer

/-! ARITH: ints and longs by their unsigned numbers -/
def u32 (x : Int32) : Nat := x.toBitVec.toNat
def u64 (x : Int64) : Nat := x.toBitVec.toNat
theorem u32_lt (x : Int32) : u32 x < 4294967296 := x.toBitVec.isLt
theorem u64_lt (x : Int64) : u64 x < 18446744073709551616 := x.toBitVec.isLt
theorem u32_inj {x y : Int32} (h : u32 x = u32 y) : x = y := Int32.toBitVec_inj.mp (BitVec.eq_of_toNat_eq h)
theorem u64_inj {x y : Int64} (h : u64 x = u64 y) : x = y := Int64.toBitVec_inj.mp (BitVec.eq_of_toNat_eq h)
theorem u32_toInt (x : Int32) : x.toInt = if 2 * u32 x < 4294967296 then (u32 x : Int) else (u32 x : Int) - 4294967296 := BitVec.toInt_eq_toNat_cond x.toBitVec
theorem u64_toInt (x : Int64) : x.toInt = if 2 * u64 x < 18446744073709551616 then (u64 x : Int) else (u64 x : Int) - 18446744073709551616 := BitVec.toInt_eq_toNat_cond x.toBitVec
theorem u32_nn {x : Int32} (h : 0 ≤ x.toInt) : (u32 x : Int) = x.toInt := by have h1 := u32_toInt x; have := u32_lt x; split at h1 <;> omega
theorem u64_nn {x : Int64} (h : 0 ≤ x.toInt) : (u64 x : Int) = x.toInt := by have h1 := u64_toInt x; have := u64_lt x; split at h1 <;> omega
theorem u32_and (x y : Int32) : u32 (x &&& y) = u32 x &&& u32 y := by show (x &&& y).toBitVec.toNat = _; rw [Int32.toBitVec_and, BitVec.toNat_and]; rfl
theorem u32_or (x y : Int32) : u32 (x ||| y) = u32 x ||| u32 y := by show (x ||| y).toBitVec.toNat = _; rw [Int32.toBitVec_or, BitVec.toNat_or]; rfl
theorem u32_xor (x y : Int32) : u32 (x ^^^ y) = u32 x ^^^ u32 y := by show (x ^^^ y).toBitVec.toNat = _; rw [Int32.toBitVec_xor, BitVec.toNat_xor]; rfl
theorem u64_and (x y : Int64) : u64 (x &&& y) = u64 x &&& u64 y := by show (x &&& y).toBitVec.toNat = _; rw [Int64.toBitVec_and, BitVec.toNat_and]; rfl
theorem u64_or (x y : Int64) : u64 (x ||| y) = u64 x ||| u64 y := by show (x ||| y).toBitVec.toNat = _; rw [Int64.toBitVec_or, BitVec.toNat_or]; rfl
theorem u64_xor (x y : Int64) : u64 (x ^^^ y) = u64 x ^^^ u64 y := by show (x ^^^ y).toBitVec.toNat = _; rw [Int64.toBitVec_xor, BitVec.toNat_xor]; rfl
theorem u32_add (x y : Int32) : u32 (x + y) = (u32 x + u32 y) % 4294967296 := by show (x + y).toBitVec.toNat = _; rw [Int32.toBitVec_add, BitVec.toNat_add]; rfl
theorem u64_add (x y : Int64) : u64 (x + y) = (u64 x + u64 y) % 18446744073709551616 := by show (x + y).toBitVec.toNat = _; rw [Int64.toBitVec_add, BitVec.toNat_add]; rfl
theorem u32_mul (x y : Int32) : u32 (x * y) = (u32 x * u32 y) % 4294967296 := by show (x * y).toBitVec.toNat = _; rw [Int32.toBitVec_mul, BitVec.toNat_mul]; rfl
theorem u64_mul (x y : Int64) : u64 (x * y) = (u64 x * u64 y) % 18446744073709551616 := by show (x * y).toBitVec.toNat = _; rw [Int64.toBitVec_mul, BitVec.toNat_mul]; rfl
theorem and31 (n : Nat) : n &&& 31 = n % 32 := Nat.and_two_pow_sub_one_eq_mod n 5
theorem and63 (n : Nat) : n &&& 63 = n % 64 := Nat.and_two_pow_sub_one_eq_mod n 6
theorem u32_ushr (x y : Int32) : u32 (jushr x y) = u32 x / 2 ^ (u32 y % 32) := by
  show (x.toBitVec >>> ((y &&& 31).toBitVec % 32#32)).toNat = _
  rw [BitVec.ushiftRight_eq', BitVec.toNat_ushiftRight, Nat.shiftRight_eq_div_pow, BitVec.toNat_umod]
  have e : (y &&& 31).toBitVec.toNat = u32 y % 32 := (u32_and y 31).trans (and31 _)
  rw [e]
  show u32 x / 2 ^ (u32 y % 32 % 32) = _
  rw [Nat.mod_mod]
theorem u32_shl (x y : Int32) : u32 (jshl x y) = (u32 x * 2 ^ (u32 y % 32)) % 4294967296 := by
  show (x.toBitVec <<< ((y &&& 31).toBitVec.smod 32#32)).toNat = _
  have e := sm32 y (u32 y % 32) rfl
  rw [BitVec.shiftLeft_eq', BitVec.toNat_shiftLeft, Nat.shiftLeft_eq]
  have e' : ((y &&& 31).toBitVec.smod 32#32).toNat = u32 y % 32 := e
  rw [e']; rfl
theorem u64_ushr (x : Int64) (y : Int32) : u64 (jushrL x y) = u64 x / 2 ^ (u32 y % 64) := by
  obtain ⟨e, h⟩ := sm64 y (u32 y % 64) rfl
  show (x.toBitVec >>> ((y &&& 0x3f).toInt64.toBitVec % 64#64)).toNat = _
  rw [e, BitVec.ushiftRight_eq', BitVec.toNat_ushiftRight, Nat.shiftRight_eq_div_pow, BitVec.toNat_umod, BitVec.toNat_ofNat]
  show u64 x / 2 ^ (u32 y % 64 % 18446744073709551616 % 64) = _
  congr 2
  omega
theorem u64_shl (x : Int64) (y : Int32) : u64 (jshlL x y) = (u64 x * 2 ^ (u32 y % 64)) % 18446744073709551616 := by
  obtain ⟨e, h⟩ := sm64 y (u32 y % 64) rfl
  show (x.toBitVec <<< ((y &&& 0x3f).toInt64.toBitVec.smod 64#64)).toNat = _
  rw [e, BitVec.shiftLeft_eq', BitVec.toNat_shiftLeft, Nat.shiftLeft_eq]
  have e' := smod64 (u32 y % 64) h
  have e'' : ((BitVec.ofNat 64 (u32 y % 64)).smod 64#64).toNat = u32 y % 64 := e'
  rw [e'']; rfl
theorem u32_l2i (x : Int64) : u32 x.toInt32 = u64 x % 4294967296 := by
  show x.toInt32.toBitVec.toNat = _
  rw [Int64.toBitVec_toInt32, BitVec.signExtend_eq_setWidth_of_le _ (by decide), BitVec.toNat_setWidth]; rfl
theorem u64_i2l (x : Int32) : u64 x.toInt64 = if 2 * u32 x < 4294967296 then u32 x else u32 x + 18446744069414584320 := by
  have h := c_i2l x
  rw [u64_toInt, u32_toInt] at h
  have := u32_lt x; have := u64_lt x.toInt64
  split <;> split at h <;> omega
theorem i32_of {x : Int32} {n : Nat} (h : u32 x = n) : x = Int32.ofNat n := by
  apply u32_inj; rw [h]
  show n = (BitVec.ofNat 32 n).toNat
  rw [BitVec.toNat_ofNat, Nat.mod_eq_of_lt]; have := u32_lt x; omega
theorem i64_of {x : Int64} {n : Nat} (h : u64 x = n) : x = Int64.ofNat n := by
  apply u64_inj; rw [h]
  show n = (BitVec.ofNat 64 n).toNat
  rw [BitVec.toNat_ofNat, Nat.mod_eq_of_lt]; have := u64_lt x; omega
theorem u32_of (n : Nat) (h : n < 4294967296) : u32 (Int32.ofNat n) = n := by
  show (BitVec.ofNat 32 n).toNat = n
  rw [BitVec.toNat_ofNat, Nat.mod_eq_of_lt]; omega
theorem u64_of (n : Nat) (h : n < 18446744073709551616) : u64 (Int64.ofNat n) = n := by
  show (BitVec.ofNat 64 n).toNat = n
  rw [BitVec.toNat_ofNat, Nat.mod_eq_of_lt]; omega
theorem toInt_of {n : Nat} (h : n < 2147483648) : (Int32.ofNat n).toInt = n := Int32.toInt_ofNat_of_lt (by omega)
theorem tnc_of {n : Nat} (h : n < 2147483648) : (Int32.ofNat n).toNatClampNeg = n := by show (Int32.ofNat n).toInt.toNat = n; rw [toInt_of h]; rfl
theorem nneg_of {n : Nat} (h : n < 2147483648) : ¬ Int32.ofNat n < 0 := by rw [Int32.lt_iff_toInt_lt, toInt_of h]; show ¬ (n : Int) < 0; omega
theorem jcmp_lt (x y : Int64) : jcmp x y < 0 ↔ x < y := lw_lt x y
theorem jcmp_gt (x y : Int64) : 0 < jcmp x y ↔ y < x := lw_gt x y
theorem jcmp_eq (x y : Int64) : jcmp x y = 0 ↔ x = y := lw_eq x y
/-- a mask of the bits from k on -/
theorem nat_hi (n k w : Nat) (h : n < 2 ^ w) (hk : k ≤ w) : n &&& (2 ^ w - 2 ^ k) = n / 2 ^ k * 2 ^ k := by
  apply Nat.eq_of_testBit_eq
  intro i
  have e : 2 ^ w - 2 ^ k = (2 ^ (w - k) - 1) <<< k := by
    rw [Nat.shiftLeft_eq, Nat.sub_mul, Nat.one_mul, ← Nat.pow_add, Nat.sub_add_cancel hk]
  rw [e, ← Nat.shiftRight_eq_div_pow, ← Nat.shiftLeft_eq, Nat.testBit_and, Nat.testBit_shiftLeft, Nat.testBit_shiftLeft, Nat.testBit_two_pow_sub_one, Nat.testBit_shiftRight]
  by_cases q : k ≤ i
  · simp only [q, decide_true, Bool.true_and]
    have e2 : k + (i - k) = i := by omega
    rw [e2]
    by_cases r : i < w
    · have : decide (i - k < w - k) = true := by simp; omega
      rw [this, Bool.and_true]
    · have : n.testBit i = false := Nat.testBit_lt_two_pow (Nat.lt_of_lt_of_le h (Nat.pow_le_pow_right (by decide) (by omega)))
      rw [this]; simp
  · simp [q]

theorem d1_0 : decode prog_32_method_1_code 0 = .ok (.aload_n 0, 1) := by decide +kernel
theorem d1_1 : decode prog_32_method_1_code 1 = .ok (.invokespecial 1, 3) := by decide +kernel
theorem d1_4 : decode prog_32_method_1_code 4 = .ok (.iload_n 2, 1) := by decide +kernel
theorem d1_5 : decode prog_32_method_1_code 5 = .ok (.ifCond .lt 9, 3) := by decide +kernel
theorem d1_8 : decode prog_32_method_1_code 8 = .ok (.iload_n 2, 1) := by decide +kernel
theorem d1_9 : decode prog_32_method_1_code 9 = .ok (.aload_n 1, 1) := by decide +kernel
theorem d1_10 : decode prog_32_method_1_code 10 = .ok (.arraylength, 1) := by decide +kernel
theorem d1_11 : decode prog_32_method_1_code 11 = .ok (.if_icmp .le 19, 3) := by decide +kernel
theorem d1_14 : decode prog_32_method_1_code 14 = .ok (.new 7, 3) := by decide +kernel
theorem d1_17 : decode prog_32_method_1_code 17 = .ok (.dup, 1) := by decide +kernel
theorem d1_18 : decode prog_32_method_1_code 18 = .ok (.iload_n 2, 1) := by decide +kernel
theorem d1_19 : decode prog_32_method_1_code 19 = .ok (.aload_n 1, 1) := by decide +kernel
theorem d1_20 : decode prog_32_method_1_code 20 = .ok (.arraylength, 1) := by decide +kernel
theorem d1_26 : decode prog_32_method_1_code 26 = .ok (.invokespecial 13, 3) := by decide +kernel
theorem d1_29 : decode prog_32_method_1_code 29 = .ok (.athrow, 1) := by decide +kernel
theorem d1_30 : decode prog_32_method_1_code 30 = .ok (.aload_n 0, 1) := by decide +kernel
theorem d1_31 : decode prog_32_method_1_code 31 = .ok (.aload_n 1, 1) := by decide +kernel
theorem d1_32 : decode prog_32_method_1_code 32 = .ok (.arraylength, 1) := by decide +kernel
theorem d1_33 : decode prog_32_method_1_code 33 = .ok (.newarray .int, 2) := by decide +kernel
theorem d1_35 : decode prog_32_method_1_code 35 = .ok (.putfield 16, 3) := by decide +kernel
theorem d1_38 : decode prog_32_method_1_code 38 = .ok (.aload_n 0, 1) := by decide +kernel
theorem d1_39 : decode prog_32_method_1_code 39 = .ok (.aload_n 1, 1) := by decide +kernel
theorem d1_40 : decode prog_32_method_1_code 40 = .ok (.arraylength, 1) := by decide +kernel
theorem d1_41 : decode prog_32_method_1_code 41 = .ok (.newarray .int, 2) := by decide +kernel
theorem d1_43 : decode prog_32_method_1_code 43 = .ok (.putfield 22, 3) := by decide +kernel
theorem d1_46 : decode prog_32_method_1_code 46 = .ok (.aload_n 0, 1) := by decide +kernel
theorem d1_47 : decode prog_32_method_1_code 47 = .ok (.aload_n 1, 1) := by decide +kernel
theorem d1_48 : decode prog_32_method_1_code 48 = .ok (.arraylength, 1) := by decide +kernel
theorem d1_49 : decode prog_32_method_1_code 49 = .ok (.newarray .long, 2) := by decide +kernel
theorem d1_51 : decode prog_32_method_1_code 51 = .ok (.putfield 25, 3) := by decide +kernel
theorem d1_54 : decode prog_32_method_1_code 54 = .ok (.iconst 0, 1) := by decide +kernel
theorem d1_55 : decode prog_32_method_1_code 55 = .ok (.istore_n 3, 1) := by decide +kernel
theorem d1_56 : decode prog_32_method_1_code 56 = .ok (.iconst 0, 1) := by decide +kernel
theorem d1_57 : decode prog_32_method_1_code 57 = .ok (.istore 4, 2) := by decide +kernel
theorem d1_59 : decode prog_32_method_1_code 59 = .ok (.iconst 0, 1) := by decide +kernel
theorem d1_60 : decode prog_32_method_1_code 60 = .ok (.istore 5, 2) := by decide +kernel
theorem d1_62 : decode prog_32_method_1_code 62 = .ok (.iload 5, 2) := by decide +kernel
theorem d1_64 : decode prog_32_method_1_code 64 = .ok (.aload_n 1, 1) := by decide +kernel
theorem d1_65 : decode prog_32_method_1_code 65 = .ok (.arraylength, 1) := by decide +kernel
theorem d1_66 : decode prog_32_method_1_code 66 = .ok (.if_icmp .ge 111, 3) := by decide +kernel
theorem d1_69 : decode prog_32_method_1_code 69 = .ok (.aload_n 1, 1) := by decide +kernel
theorem d1_70 : decode prog_32_method_1_code 70 = .ok (.iload 5, 2) := by decide +kernel
theorem d1_72 : decode prog_32_method_1_code 72 = .ok (.iaload, 1) := by decide +kernel
theorem d1_73 : decode prog_32_method_1_code 73 = .ok (.ifCond .ge 22, 3) := by decide +kernel
theorem d1_76 : decode prog_32_method_1_code 76 = .ok (.new 7, 3) := by decide +kernel
theorem d1_79 : decode prog_32_method_1_code 79 = .ok (.dup, 1) := by decide +kernel
theorem d1_80 : decode prog_32_method_1_code 80 = .ok (.iload 5, 2) := by decide +kernel
theorem d1_82 : decode prog_32_method_1_code 82 = .ok (.aload_n 1, 1) := by decide +kernel
theorem d1_83 : decode prog_32_method_1_code 83 = .ok (.iload 5, 2) := by decide +kernel
theorem d1_85 : decode prog_32_method_1_code 85 = .ok (.iaload, 1) := by decide +kernel
theorem d1_91 : decode prog_32_method_1_code 91 = .ok (.invokespecial 13, 3) := by decide +kernel
theorem d1_94 : decode prog_32_method_1_code 94 = .ok (.athrow, 1) := by decide +kernel
theorem d1_95 : decode prog_32_method_1_code 95 = .ok (.bipush 32, 2) := by decide +kernel
theorem d1_97 : decode prog_32_method_1_code 97 = .ok (.aload_n 1, 1) := by decide +kernel
theorem d1_98 : decode prog_32_method_1_code 98 = .ok (.iload 5, 2) := by decide +kernel
theorem d1_100 : decode prog_32_method_1_code 100 = .ok (.iaload, 1) := by decide +kernel
theorem d1_101 : decode prog_32_method_1_code 101 = .ok (.invokestatic 32, 3) := by decide +kernel
theorem d1_104 : decode prog_32_method_1_code 104 = .ok (.isub, 1) := by decide +kernel
theorem d1_105 : decode prog_32_method_1_code 105 = .ok (.istore 6, 2) := by decide +kernel
theorem d1_107 : decode prog_32_method_1_code 107 = .ok (.iload 4, 2) := by decide +kernel
theorem d1_109 : decode prog_32_method_1_code 109 = .ok (.iload 6, 2) := by decide +kernel
theorem d1_111 : decode prog_32_method_1_code 111 = .ok (.iadd, 1) := by decide +kernel
theorem d1_112 : decode prog_32_method_1_code 112 = .ok (.bipush 64, 2) := by decide +kernel
theorem d1_114 : decode prog_32_method_1_code 114 = .ok (.if_icmp .gt 14, 3) := by decide +kernel
theorem d1_117 : decode prog_32_method_1_code 117 = .ok (.iload 5, 2) := by decide +kernel
theorem d1_119 : decode prog_32_method_1_code 119 = .ok (.iload_n 2, 1) := by decide +kernel
theorem d1_120 : decode prog_32_method_1_code 120 = .ok (.if_icmp .ne 14, 3) := by decide +kernel
theorem d1_123 : decode prog_32_method_1_code 123 = .ok (.iload 4, 2) := by decide +kernel
theorem d1_125 : decode prog_32_method_1_code 125 = .ok (.ifCond .le 9, 3) := by decide +kernel
theorem d1_128 : decode prog_32_method_1_code 128 = .ok (.iinc 3 1, 3) := by decide +kernel
theorem d1_131 : decode prog_32_method_1_code 131 = .ok (.iconst 0, 1) := by decide +kernel
theorem d1_132 : decode prog_32_method_1_code 132 = .ok (.istore 4, 2) := by decide +kernel
theorem d1_134 : decode prog_32_method_1_code 134 = .ok (.aload_n 0, 1) := by decide +kernel
theorem d1_135 : decode prog_32_method_1_code 135 = .ok (.getfield 16, 3) := by decide +kernel
theorem d1_138 : decode prog_32_method_1_code 138 = .ok (.iload 5, 2) := by decide +kernel
theorem d1_140 : decode prog_32_method_1_code 140 = .ok (.iload_n 3, 1) := by decide +kernel
theorem d1_141 : decode prog_32_method_1_code 141 = .ok (.iastore, 1) := by decide +kernel
theorem d1_142 : decode prog_32_method_1_code 142 = .ok (.aload_n 0, 1) := by decide +kernel
theorem d1_143 : decode prog_32_method_1_code 143 = .ok (.getfield 22, 3) := by decide +kernel
theorem d1_146 : decode prog_32_method_1_code 146 = .ok (.iload 5, 2) := by decide +kernel
theorem d1_148 : decode prog_32_method_1_code 148 = .ok (.iload 4, 2) := by decide +kernel
theorem d1_150 : decode prog_32_method_1_code 150 = .ok (.iastore, 1) := by decide +kernel
theorem d1_151 : decode prog_32_method_1_code 151 = .ok (.aload_n 0, 1) := by decide +kernel
theorem d1_152 : decode prog_32_method_1_code 152 = .ok (.getfield 25, 3) := by decide +kernel
theorem d1_155 : decode prog_32_method_1_code 155 = .ok (.iload 5, 2) := by decide +kernel
theorem d1_157 : decode prog_32_method_1_code 157 = .ok (.lconst 1, 1) := by decide +kernel
theorem d1_158 : decode prog_32_method_1_code 158 = .ok (.iload 6, 2) := by decide +kernel
theorem d1_160 : decode prog_32_method_1_code 160 = .ok (.lshl, 1) := by decide +kernel
theorem d1_161 : decode prog_32_method_1_code 161 = .ok (.lconst 1, 1) := by decide +kernel
theorem d1_162 : decode prog_32_method_1_code 162 = .ok (.lsub, 1) := by decide +kernel
theorem d1_163 : decode prog_32_method_1_code 163 = .ok (.lastore, 1) := by decide +kernel
theorem d1_164 : decode prog_32_method_1_code 164 = .ok (.iload 4, 2) := by decide +kernel
theorem d1_166 : decode prog_32_method_1_code 166 = .ok (.iload 6, 2) := by decide +kernel
theorem d1_168 : decode prog_32_method_1_code 168 = .ok (.iadd, 1) := by decide +kernel
theorem d1_169 : decode prog_32_method_1_code 169 = .ok (.istore 4, 2) := by decide +kernel
theorem d1_171 : decode prog_32_method_1_code 171 = .ok (.iinc 5 1, 3) := by decide +kernel
theorem d1_174 : decode prog_32_method_1_code 174 = .ok (.goto (-112), 3) := by decide +kernel
theorem d1_177 : decode prog_32_method_1_code 177 = .ok (.aload_n 0, 1) := by decide +kernel
theorem d1_178 : decode prog_32_method_1_code 178 = .ok (.iload_n 3, 1) := by decide +kernel
theorem d1_179 : decode prog_32_method_1_code 179 = .ok (.iconst 1, 1) := by decide +kernel
theorem d1_180 : decode prog_32_method_1_code 180 = .ok (.iadd, 1) := by decide +kernel
theorem d1_181 : decode prog_32_method_1_code 181 = .ok (.putfield 38, 3) := by decide +kernel
theorem d1_184 : decode prog_32_method_1_code 184 = .ok (.aload_n 0, 1) := by decide +kernel
theorem d1_185 : decode prog_32_method_1_code 185 = .ok (.iload_n 2, 1) := by decide +kernel
theorem d1_186 : decode prog_32_method_1_code 186 = .ok (.aload_n 1, 1) := by decide +kernel
theorem d1_187 : decode prog_32_method_1_code 187 = .ok (.arraylength, 1) := by decide +kernel
theorem d1_188 : decode prog_32_method_1_code 188 = .ok (.if_icmp .ne 10, 3) := by decide +kernel
theorem d1_191 : decode prog_32_method_1_code 191 = .ok (.aload_n 0, 1) := by decide +kernel
theorem d1_192 : decode prog_32_method_1_code 192 = .ok (.getfield 38, 3) := by decide +kernel
theorem d1_195 : decode prog_32_method_1_code 195 = .ok (.goto 9, 3) := by decide +kernel
theorem d1_198 : decode prog_32_method_1_code 198 = .ok (.aload_n 0, 1) := by decide +kernel
theorem d1_199 : decode prog_32_method_1_code 199 = .ok (.getfield 16, 3) := by decide +kernel
theorem d1_202 : decode prog_32_method_1_code 202 = .ok (.iload_n 2, 1) := by decide +kernel
theorem d1_203 : decode prog_32_method_1_code 203 = .ok (.iaload, 1) := by decide +kernel
theorem d1_204 : decode prog_32_method_1_code 204 = .ok (.putfield 42, 3) := by decide +kernel
theorem d1_207 : decode prog_32_method_1_code 207 = .ok (.return_, 1) := by decide +kernel
theorem d3_0 : decode jdk_33_method_47_code 0 = .ok (.iload_n 0, 1) := by decide +kernel
theorem d3_1 : decode jdk_33_method_47_code 1 = .ok (.ifCond .gt 14, 3) := by decide +kernel
theorem d3_4 : decode jdk_33_method_47_code 4 = .ok (.iload_n 0, 1) := by decide +kernel
theorem d3_5 : decode jdk_33_method_47_code 5 = .ok (.ifCond .ne 8, 3) := by decide +kernel
theorem d3_8 : decode jdk_33_method_47_code 8 = .ok (.bipush 32, 2) := by decide +kernel
theorem d3_10 : decode jdk_33_method_47_code 10 = .ok (.goto 4, 3) := by decide +kernel
theorem d3_13 : decode jdk_33_method_47_code 13 = .ok (.iconst 0, 1) := by decide +kernel
theorem d3_14 : decode jdk_33_method_47_code 14 = .ok (.ireturn, 1) := by decide +kernel
theorem d3_15 : decode jdk_33_method_47_code 15 = .ok (.bipush 31, 2) := by decide +kernel
theorem d3_17 : decode jdk_33_method_47_code 17 = .ok (.istore_n 1, 1) := by decide +kernel
theorem d3_18 : decode jdk_33_method_47_code 18 = .ok (.iload_n 0, 1) := by decide +kernel
theorem d3_19 : decode jdk_33_method_47_code 19 = .ok (.ldc_w 264, 3) := by decide +kernel
theorem d3_22 : decode jdk_33_method_47_code 22 = .ok (.if_icmp .lt 11, 3) := by decide +kernel
theorem d3_25 : decode jdk_33_method_47_code 25 = .ok (.iinc 1 (-16), 3) := by decide +kernel
theorem d3_28 : decode jdk_33_method_47_code 28 = .ok (.iload_n 0, 1) := by decide +kernel
theorem d3_29 : decode jdk_33_method_47_code 29 = .ok (.bipush 16, 2) := by decide +kernel
theorem d3_31 : decode jdk_33_method_47_code 31 = .ok (.iushr, 1) := by decide +kernel
theorem d3_32 : decode jdk_33_method_47_code 32 = .ok (.istore_n 0, 1) := by decide +kernel
theorem d3_33 : decode jdk_33_method_47_code 33 = .ok (.iload_n 0, 1) := by decide +kernel
theorem d3_34 : decode jdk_33_method_47_code 34 = .ok (.sipush 256, 3) := by decide +kernel
theorem d3_37 : decode jdk_33_method_47_code 37 = .ok (.if_icmp .lt 11, 3) := by decide +kernel
theorem d3_40 : decode jdk_33_method_47_code 40 = .ok (.iinc 1 (-8), 3) := by decide +kernel
theorem d3_43 : decode jdk_33_method_47_code 43 = .ok (.iload_n 0, 1) := by decide +kernel
theorem d3_44 : decode jdk_33_method_47_code 44 = .ok (.bipush 8, 2) := by decide +kernel
theorem d3_46 : decode jdk_33_method_47_code 46 = .ok (.iushr, 1) := by decide +kernel
theorem d3_47 : decode jdk_33_method_47_code 47 = .ok (.istore_n 0, 1) := by decide +kernel
theorem d3_48 : decode jdk_33_method_47_code 48 = .ok (.iload_n 0, 1) := by decide +kernel
theorem d3_49 : decode jdk_33_method_47_code 49 = .ok (.bipush 16, 2) := by decide +kernel
theorem d3_51 : decode jdk_33_method_47_code 51 = .ok (.if_icmp .lt 10, 3) := by decide +kernel
theorem d3_54 : decode jdk_33_method_47_code 54 = .ok (.iinc 1 (-4), 3) := by decide +kernel
theorem d3_57 : decode jdk_33_method_47_code 57 = .ok (.iload_n 0, 1) := by decide +kernel
theorem d3_58 : decode jdk_33_method_47_code 58 = .ok (.iconst 4, 1) := by decide +kernel
theorem d3_59 : decode jdk_33_method_47_code 59 = .ok (.iushr, 1) := by decide +kernel
theorem d3_60 : decode jdk_33_method_47_code 60 = .ok (.istore_n 0, 1) := by decide +kernel
theorem d3_61 : decode jdk_33_method_47_code 61 = .ok (.iload_n 0, 1) := by decide +kernel
theorem d3_62 : decode jdk_33_method_47_code 62 = .ok (.iconst 4, 1) := by decide +kernel
theorem d3_63 : decode jdk_33_method_47_code 63 = .ok (.if_icmp .lt 10, 3) := by decide +kernel
theorem d3_66 : decode jdk_33_method_47_code 66 = .ok (.iinc 1 (-2), 3) := by decide +kernel
theorem d3_69 : decode jdk_33_method_47_code 69 = .ok (.iload_n 0, 1) := by decide +kernel
theorem d3_70 : decode jdk_33_method_47_code 70 = .ok (.iconst 2, 1) := by decide +kernel
theorem d3_71 : decode jdk_33_method_47_code 71 = .ok (.iushr, 1) := by decide +kernel
theorem d3_72 : decode jdk_33_method_47_code 72 = .ok (.istore_n 0, 1) := by decide +kernel
theorem d3_73 : decode jdk_33_method_47_code 73 = .ok (.iload_n 1, 1) := by decide +kernel
theorem d3_74 : decode jdk_33_method_47_code 74 = .ok (.iload_n 0, 1) := by decide +kernel
theorem d3_75 : decode jdk_33_method_47_code 75 = .ok (.iconst 1, 1) := by decide +kernel
theorem d3_76 : decode jdk_33_method_47_code 76 = .ok (.iushr, 1) := by decide +kernel
theorem d3_77 : decode jdk_33_method_47_code 77 = .ok (.isub, 1) := by decide +kernel
theorem d3_78 : decode jdk_33_method_47_code 78 = .ok (.ireturn, 1) := by decide +kernel
theorem d4_0 : decode prog_32_method_6_code 0 = .ok (.aload_n 1, 1) := by decide +kernel
theorem d4_1 : decode prog_32_method_6_code 1 = .ok (.iload_n 2, 1) := by decide +kernel
theorem d4_2 : decode prog_32_method_6_code 2 = .ok (.aload_n 0, 1) := by decide +kernel
theorem d4_3 : decode prog_32_method_6_code 3 = .ok (.getfield 16, 3) := by decide +kernel
theorem d4_6 : decode prog_32_method_6_code 6 = .ok (.iload_n 3, 1) := by decide +kernel
theorem d4_7 : decode prog_32_method_6_code 7 = .ok (.iaload, 1) := by decide +kernel
theorem d4_8 : decode prog_32_method_6_code 8 = .ok (.iadd, 1) := by decide +kernel
theorem d4_9 : decode prog_32_method_6_code 9 = .ok (.laload, 1) := by decide +kernel
theorem d4_10 : decode prog_32_method_6_code 10 = .ok (.aload_n 0, 1) := by decide +kernel
theorem d4_11 : decode prog_32_method_6_code 11 = .ok (.getfield 22, 3) := by decide +kernel
theorem d4_14 : decode prog_32_method_6_code 14 = .ok (.iload_n 3, 1) := by decide +kernel
theorem d4_15 : decode prog_32_method_6_code 15 = .ok (.iaload, 1) := by decide +kernel
theorem d4_16 : decode prog_32_method_6_code 16 = .ok (.lushr, 1) := by decide +kernel
theorem d4_17 : decode prog_32_method_6_code 17 = .ok (.aload_n 0, 1) := by decide +kernel
theorem d4_18 : decode prog_32_method_6_code 18 = .ok (.getfield 25, 3) := by decide +kernel
theorem d4_21 : decode prog_32_method_6_code 21 = .ok (.iload_n 3, 1) := by decide +kernel
theorem d4_22 : decode prog_32_method_6_code 22 = .ok (.laload, 1) := by decide +kernel
theorem d4_23 : decode prog_32_method_6_code 23 = .ok (.land, 1) := by decide +kernel
theorem d4_24 : decode prog_32_method_6_code 24 = .ok (.l2i, 1) := by decide +kernel
theorem d4_25 : decode prog_32_method_6_code 25 = .ok (.ireturn, 1) := by decide +kernel
theorem d5_0 : decode method_3_code 0 = .ok (.iload 6, 2) := by decide +kernel
theorem d5_2 : decode method_3_code 2 = .ok (.ifCond .ne 10, 3) := by decide +kernel
theorem d5_5 : decode method_3_code 5 = .ok (.lload_n 0, 1) := by decide +kernel
theorem d5_6 : decode method_3_code 6 = .ok (.ldc2_w 23, 3) := by decide +kernel
theorem d5_9 : decode method_3_code 9 = .ok (.land, 1) := by decide +kernel
theorem d5_10 : decode method_3_code 10 = .ok (.l2i, 1) := by decide +kernel
theorem d5_11 : decode method_3_code 11 = .ok (.ireturn, 1) := by decide +kernel
theorem d5_12 : decode method_3_code 12 = .ok (.iload 6, 2) := by decide +kernel
theorem d5_14 : decode method_3_code 14 = .ok (.iconst 1, 1) := by decide +kernel
theorem d5_15 : decode method_3_code 15 = .ok (.if_icmp .ne 5, 3) := by decide +kernel
theorem d5_18 : decode method_3_code 18 = .ok (.iconst 0, 1) := by decide +kernel
theorem d5_19 : decode method_3_code 19 = .ok (.ireturn, 1) := by decide +kernel
theorem d5_20 : decode method_3_code 20 = .ok (.iload 6, 2) := by decide +kernel
theorem d5_22 : decode method_3_code 22 = .ok (.iconst 2, 1) := by decide +kernel
theorem d5_23 : decode method_3_code 23 = .ok (.if_icmp .ne 12, 3) := by decide +kernel
theorem d5_26 : decode method_3_code 26 = .ok (.lload_n 0, 1) := by decide +kernel
theorem d5_27 : decode method_3_code 27 = .ok (.iconst 3, 1) := by decide +kernel
theorem d5_28 : decode method_3_code 28 = .ok (.lushr, 1) := by decide +kernel
theorem d5_29 : decode method_3_code 29 = .ok (.ldc2_w 25, 3) := by decide +kernel
theorem d5_32 : decode method_3_code 32 = .ok (.land, 1) := by decide +kernel
theorem d5_33 : decode method_3_code 33 = .ok (.l2i, 1) := by decide +kernel
theorem d5_34 : decode method_3_code 34 = .ok (.ireturn, 1) := by decide +kernel
theorem d5_35 : decode method_3_code 35 = .ok (.iload 6, 2) := by decide +kernel
theorem d5_37 : decode method_3_code 37 = .ok (.iconst 3, 1) := by decide +kernel
theorem d5_38 : decode method_3_code 38 = .ok (.if_icmp .ne 10, 3) := by decide +kernel
theorem d5_41 : decode method_3_code 41 = .ok (.lload_n 2, 1) := by decide +kernel
theorem d5_42 : decode method_3_code 42 = .ok (.ldc2_w 25, 3) := by decide +kernel
theorem d5_45 : decode method_3_code 45 = .ok (.land, 1) := by decide +kernel
theorem d5_46 : decode method_3_code 46 = .ok (.l2i, 1) := by decide +kernel
theorem d5_47 : decode method_3_code 47 = .ok (.ireturn, 1) := by decide +kernel
theorem d5_48 : decode method_3_code 48 = .ok (.iload 6, 2) := by decide +kernel
theorem d5_50 : decode method_3_code 50 = .ok (.iconst 4, 1) := by decide +kernel
theorem d5_51 : decode method_3_code 51 = .ok (.if_icmp .ne 13, 3) := by decide +kernel
theorem d5_54 : decode method_3_code 54 = .ok (.lload_n 2, 1) := by decide +kernel
theorem d5_55 : decode method_3_code 55 = .ok (.bipush 31, 2) := by decide +kernel
theorem d5_57 : decode method_3_code 57 = .ok (.lushr, 1) := by decide +kernel
theorem d5_58 : decode method_3_code 58 = .ok (.ldc2_w 25, 3) := by decide +kernel
theorem d5_61 : decode method_3_code 61 = .ok (.land, 1) := by decide +kernel
theorem d5_62 : decode method_3_code 62 = .ok (.l2i, 1) := by decide +kernel
theorem d5_63 : decode method_3_code 63 = .ok (.ireturn, 1) := by decide +kernel
theorem d5_64 : decode method_3_code 64 = .ok (.iload 6, 2) := by decide +kernel
theorem d5_66 : decode method_3_code 66 = .ok (.iconst 5, 1) := by decide +kernel
theorem d5_67 : decode method_3_code 67 = .ok (.if_icmp .ne 26, 3) := by decide +kernel
theorem d5_70 : decode method_3_code 70 = .ok (.iload 7, 2) := by decide +kernel
theorem d5_72 : decode method_3_code 72 = .ok (.ifCond .eq 11, 3) := by decide +kernel
theorem d5_75 : decode method_3_code 75 = .ok (.lload 4, 2) := by decide +kernel
theorem d5_77 : decode method_3_code 77 = .ok (.ldc2_w 27, 3) := by decide +kernel
theorem d5_80 : decode method_3_code 80 = .ok (.land, 1) := by decide +kernel
theorem d5_81 : decode method_3_code 81 = .ok (.l2i, 1) := by decide +kernel
theorem d5_82 : decode method_3_code 82 = .ok (.ireturn, 1) := by decide +kernel
theorem d5_83 : decode method_3_code 83 = .ok (.lload_n 2, 1) := by decide +kernel
theorem d5_84 : decode method_3_code 84 = .ok (.bipush 62, 2) := by decide +kernel
theorem d5_86 : decode method_3_code 86 = .ok (.lushr, 1) := by decide +kernel
theorem d5_87 : decode method_3_code 87 = .ok (.ldc2_w 27, 3) := by decide +kernel
theorem d5_90 : decode method_3_code 90 = .ok (.land, 1) := by decide +kernel
theorem d5_91 : decode method_3_code 91 = .ok (.l2i, 1) := by decide +kernel
theorem d5_92 : decode method_3_code 92 = .ok (.ireturn, 1) := by decide +kernel
theorem d5_93 : decode method_3_code 93 = .ok (.iload 7, 2) := by decide +kernel
theorem d5_95 : decode method_3_code 95 = .ok (.ifCond .eq 11, 3) := by decide +kernel
theorem d5_98 : decode method_3_code 98 = .ok (.lload 4, 2) := by decide +kernel
theorem d5_100 : decode method_3_code 100 = .ok (.iconst 2, 1) := by decide +kernel
theorem d5_101 : decode method_3_code 101 = .ok (.lushr, 1) := by decide +kernel
theorem d5_102 : decode method_3_code 102 = .ok (.lconst 1, 1) := by decide +kernel
theorem d5_103 : decode method_3_code 103 = .ok (.land, 1) := by decide +kernel
theorem d5_104 : decode method_3_code 104 = .ok (.l2i, 1) := by decide +kernel
theorem d5_105 : decode method_3_code 105 = .ok (.ireturn, 1) := by decide +kernel
theorem d5_106 : decode method_3_code 106 = .ok (.lload 4, 2) := by decide +kernel
theorem d5_108 : decode method_3_code 108 = .ok (.lconst 1, 1) := by decide +kernel
theorem d5_109 : decode method_3_code 109 = .ok (.land, 1) := by decide +kernel
theorem d5_110 : decode method_3_code 110 = .ok (.l2i, 1) := by decide +kernel
theorem d5_111 : decode method_3_code 111 = .ok (.ireturn, 1) := by decide +kernel
theorem pn0 : plainFor (⟨"com/example/linearis/linearis/bundled/LayoutGetPinLaw", "law", "(JJJJI)Z"⟩ : MethodName) = true := plainFor_of_name (by first | (simp [plainName, overriddenIn]; done) | decide +kernel)
theorem pn1 : plainFor (⟨"com/example/linearis/linearis/bundled/Layout", "<init>", "([II)V"⟩ : MethodName) = true := plainFor_of_name (by first | (simp [plainName, overriddenIn]; done) | decide +kernel)
theorem pd1 : parseMethodDescriptor "([II)V" = some ⟨[(.array .int), .int], none⟩ := by decide +kernel
theorem pn3 : plainFor (⟨"java/lang/Integer", "numberOfLeadingZeros", "(I)I"⟩ : MethodName) = true := plainFor_of_name (by first | (simp [plainName, overriddenIn]; done) | decide +kernel)
theorem pd3 : parseMethodDescriptor "(I)I" = some ⟨[.int], some .int⟩ := by decide +kernel
theorem pn4 : plainFor (⟨"com/example/linearis/linearis/bundled/Layout", "get", "([JII)I"⟩ : MethodName) = true := plainFor_of_name (by first | (simp [plainName, overriddenIn]; done) | decide +kernel)
theorem pd4 : parseMethodDescriptor "([JII)I" = some ⟨[(.array .long), .int, .int], some .int⟩ := by decide +kernel
theorem pn5 : plainFor (⟨"com/example/linearis/linearis/bundled/LayoutGetPinLaw", "expected", "(JJJIZ)I"⟩ : MethodName) = true := plainFor_of_name (by first | (simp [plainName, overriddenIn]; done) | decide +kernel)
theorem pd5 : parseMethodDescriptor "(JJJIZ)I" = some ⟨[.long, .long, .long, .int, .boolean], some .int⟩ := by decide +kernel
def CK : oK
  | 0 => ("com/example/linearis/linearis/bundled/Layout", [("com/example/linearis/linearis/bundled/Layout", "word", "[I"), ("com/example/linearis/linearis/bundled/Layout", "shift", "[I"), ("com/example/linearis/linearis/bundled/Layout", "mask", "[J"), ("com/example/linearis/linearis/bundled/Layout", "words", "I"), ("com/example/linearis/linearis/bundled/Layout", "compared", "I")])
  | _ => ("", [])
theorem kok0 {Z : State} {a0 : Array Value} (hw : ∀ d ∈ tables_1, d.before a0 Z = true) : oKOk Z a0 CK 0 := ⟨⟨⟨Or.inr (hw _ (List.mem_of_getElem? (i := 12) rfl)), (.array .int), by decide⟩, ⟨⟨Or.inr (hw _ (List.mem_of_getElem? (i := 14) rfl)), (.array .int), by decide⟩, ⟨⟨Or.inr (hw _ (List.mem_of_getElem? (i := 17) rfl)), (.array .long), by decide⟩, ⟨⟨Or.inr (hw _ (List.mem_of_getElem? (i := 24) rfl)), .int, by decide⟩, ⟨⟨Or.inr (hw _ (List.mem_of_getElem? (i := 26) rfl)), .int, by decide⟩, trivial⟩⟩⟩⟩⟩, oDistinct.of (by decide)⟩
theorem of_add (i j : Nat) : Int32.ofNat i + Int32.ofNat j = Int32.ofNat (i + j) := (Int32.ofNat_add i j).symm
theorem one_up (i : Nat) : Int32.ofNat i + Int32.ofInt 1 = Int32.ofNat (i + 1) := (Int32.ofNat_add i 1).symm
theorem lt_of {i j : Nat} (hi : i < 2147483648) (hj : j < 2147483648) : Int32.ofNat i < Int32.ofNat j ↔ i < j := by rw [Int32.lt_iff_toInt_lt, toInt_of hi, toInt_of hj]; omega
theorem eq_of {i j : Nat} (hi : i < 2147483648) (hj : j < 2147483648) : Int32.ofNat i = Int32.ofNat j ↔ i = j := by rw [← Int32.toInt_inj, toInt_of hi, toInt_of hj]; omega
theorem of_sub {i j : Nat} (h : j ≤ i) (h2 : i < 2147483648) : Int32.ofNat i - Int32.ofNat j = Int32.ofNat (i - j) := by
  apply Int32.toInt_inj.mp
  have h3 := c_isub (Int32.ofNat i) (Int32.ofNat j)
  have h4 := rng32 (Int32.ofNat i - Int32.ofNat j)
  rw [toInt_of h2, toInt_of (show j < 2147483648 by omega)] at h3
  rw [toInt_of (show i - j < 2147483648 by omega)]; omega
/-! leading zeros -/
def T4 (n i : Int32) : Int32 := n - jushr i 1
def T3 (n i : Int32) : Int32 := if i < 4 then T4 n i else T4 (n + Int32.ofInt (-2)) (jushr i 2)
def T2 (n i : Int32) : Int32 := if i < 16 then T3 n i else T3 (n + Int32.ofInt (-4)) (jushr i 4)
def T1 (n i : Int32) : Int32 := if i < 256 then T2 n i else T2 (n + Int32.ofInt (-8)) (jushr i 8)
def T0 (n i : Int32) : Int32 := if i < 65536 then T1 n i else T1 (n + Int32.ofInt (-16)) (jushr i 16)
def nlz (i : Int32) : Int32 := if 0 < i then T0 31 i else if ¬ i = 0 then 0 else 32
/-! where the parts lie -/
def lcur (w u k p unc : Nat) : Nat × Nat := if 64 < u + k ∨ (p = unc ∧ 0 < u) then (w + 1, 0) else (w, u)
def LW (k : Nat → Nat) (unc : Nat) : Nat → Nat × Nat
  | 0 => (0, 0)
  | p + 1 => ((lcur (LW k unc p).1 (LW k unc p).2 (k p) p unc).1, (lcur (LW k unc p).1 (LW k unc p).2 (k p) p unc).2 + k p)
def WU (k : Nat → Nat) (unc p : Nat) : Nat × Nat := lcur (LW k unc p).1 (LW k unc p).2 (k p) p unc
theorem lcur_le (w u k p unc : Nat) (hk : k ≤ 32) : (lcur w u k p unc).1 ≤ w + 1 ∧ (lcur w u k p unc).2 + k ≤ 64 := by
  unfold lcur; split
  · exact ⟨Nat.le_refl _, by show 0 + k ≤ 64; omega⟩
  · rename_i h; exact ⟨Nat.le_succ _, by show u + k ≤ 64; omega⟩
theorem LW_le (k : Nat → Nat) (unc : Nat) (hk : ∀ p, k p ≤ 32) : ∀ p, (LW k unc p).1 ≤ p ∧ (LW k unc p).2 ≤ 64
  | 0 => ⟨Nat.le_refl _, Nat.zero_le _⟩
  | p + 1 => by
    have h := LW_le k unc hk p
    have q := lcur_le (LW k unc p).1 (LW k unc p).2 (k p) p unc (hk p)
    exact ⟨by show (lcur _ _ _ _ _).1 ≤ _; omega, q.2⟩
def mk (k : Nat) : Int64 := jshlL 1 (Int32.ofNat k) - 1

theorem n4 {l : Launch} {Z : State} {a0 : Array Value} (hw : ∀ d ∈ tables_1, d.before a0 Z = true) {ρ : oM} {A : oH} (n i : Int32) : Ends l Z CK ρ "java/lang/Integer" "numberOfLeadingZeros" jdk_33_method_47_code 2 ({ frames := 0, cells := 0, slots := 0, locals := 0 } : Room) (some .int) (73, [.val (.int i), .val (.int n)], [], A, 0, 0) (some (.int (T4 n i))) A := by
  refine Ends.st (b := (74, _, _, _, 0, 0)) (s_iloadN d3_73 rfl) ?_
  refine Ends.st (b := (75, _, _, _, 0, 0)) (s_iloadN d3_74 rfl) ?_
  refine Ends.st (b := (76, _, _, _, 0, 0)) (s_iconst (z := 1) d3_75 rfl) ?_
  refine Ends.st (b := (77, _, _, _, 0, 0)) (s_iushr d3_76) ?_
  refine Ends.st (b := (78, _, _, _, 0, 0)) (s_isub d3_77) ?_
  exact e_ireturn d3_78 rfl (by decide) (by decide)
theorem n3 {l : Launch} {Z : State} {a0 : Array Value} (hw : ∀ d ∈ tables_1, d.before a0 Z = true) {ρ : oM} {A : oH} (n i : Int32) : Ends l Z CK ρ "java/lang/Integer" "numberOfLeadingZeros" jdk_33_method_47_code 2 ({ frames := 0, cells := 0, slots := 0, locals := 0 } : Room) (some .int) (61, [.val (.int i), .val (.int n)], [], A, 0, 0) (some (.int (T3 n i))) A := by
  refine Ends.st (b := (62, _, _, _, 0, 0)) (s_iloadN d3_61 rfl) ?_
  refine Ends.st (b := (63, _, _, _, 0, 0)) (s_iconst (z := 4) d3_62 rfl) ?_
  refine Ends.icmp_lt (pc' := 73) d3_63 (by decide) (by decide) (fun h => ?_) (fun h => ?_)
  · skip
    rw [show T3 n i = _ from if_pos h]
    exact n4 hw _ _
  · skip
    rw [show T3 n i = _ from if_neg h]
    refine Ends.st (b := (69, [_, _], _, _, 0, 0)) (s_iinc d3_66 rfl rfl rfl) ?_
    refine Ends.st (b := (70, _, _, _, 0, 0)) (s_iloadN d3_69 rfl) ?_
    refine Ends.st (b := (71, _, _, _, 0, 0)) (s_iconst (z := 2) d3_70 rfl) ?_
    refine Ends.st (b := (72, _, _, _, 0, 0)) (s_iushr d3_71) ?_
    refine Ends.st (b := (73, [_, _], _, _, 0, 0)) (s_istoreN d3_72 rfl) ?_
    exact n4 hw _ _
theorem n2 {l : Launch} {Z : State} {a0 : Array Value} (hw : ∀ d ∈ tables_1, d.before a0 Z = true) {ρ : oM} {A : oH} (n i : Int32) : Ends l Z CK ρ "java/lang/Integer" "numberOfLeadingZeros" jdk_33_method_47_code 2 ({ frames := 0, cells := 0, slots := 0, locals := 0 } : Room) (some .int) (48, [.val (.int i), .val (.int n)], [], A, 0, 0) (some (.int (T2 n i))) A := by
  refine Ends.st (b := (49, _, _, _, 0, 0)) (s_iloadN d3_48 rfl) ?_
  refine Ends.st (b := (51, _, _, _, 0, 0)) (s_bipush (z := 16) d3_49 (by decide)) ?_
  refine Ends.icmp_lt (pc' := 61) d3_51 (by decide) (by decide) (fun h => ?_) (fun h => ?_)
  · skip
    rw [show T2 n i = _ from if_pos h]
    exact n3 hw _ _
  · skip
    rw [show T2 n i = _ from if_neg h]
    refine Ends.st (b := (57, [_, _], _, _, 0, 0)) (s_iinc d3_54 rfl rfl rfl) ?_
    refine Ends.st (b := (58, _, _, _, 0, 0)) (s_iloadN d3_57 rfl) ?_
    refine Ends.st (b := (59, _, _, _, 0, 0)) (s_iconst (z := 4) d3_58 rfl) ?_
    refine Ends.st (b := (60, _, _, _, 0, 0)) (s_iushr d3_59) ?_
    refine Ends.st (b := (61, [_, _], _, _, 0, 0)) (s_istoreN d3_60 rfl) ?_
    exact n3 hw _ _
theorem n1 {l : Launch} {Z : State} {a0 : Array Value} (hw : ∀ d ∈ tables_1, d.before a0 Z = true) {ρ : oM} {A : oH} (n i : Int32) : Ends l Z CK ρ "java/lang/Integer" "numberOfLeadingZeros" jdk_33_method_47_code 2 ({ frames := 0, cells := 0, slots := 0, locals := 0 } : Room) (some .int) (33, [.val (.int i), .val (.int n)], [], A, 0, 0) (some (.int (T1 n i))) A := by
  refine Ends.st (b := (34, _, _, _, 0, 0)) (s_iloadN d3_33 rfl) ?_
  refine Ends.st (b := (37, _, _, _, 0, 0)) (s_sipush (z := 256) d3_34 (by decide)) ?_
  refine Ends.icmp_lt (pc' := 48) d3_37 (by decide) (by decide) (fun h => ?_) (fun h => ?_)
  · skip
    rw [show T1 n i = _ from if_pos h]
    exact n2 hw _ _
  · skip
    rw [show T1 n i = _ from if_neg h]
    refine Ends.st (b := (43, [_, _], _, _, 0, 0)) (s_iinc d3_40 rfl rfl rfl) ?_
    refine Ends.st (b := (44, _, _, _, 0, 0)) (s_iloadN d3_43 rfl) ?_
    refine Ends.st (b := (46, _, _, _, 0, 0)) (s_bipush (z := 8) d3_44 (by decide)) ?_
    refine Ends.st (b := (47, _, _, _, 0, 0)) (s_iushr d3_46) ?_
    refine Ends.st (b := (48, [_, _], _, _, 0, 0)) (s_istoreN d3_47 rfl) ?_
    exact n2 hw _ _
theorem n0 {l : Launch} {Z : State} {a0 : Array Value} (hw : ∀ d ∈ tables_1, d.before a0 Z = true) {ρ : oM} {A : oH} (n i : Int32) : Ends l Z CK ρ "java/lang/Integer" "numberOfLeadingZeros" jdk_33_method_47_code 2 ({ frames := 0, cells := 0, slots := 0, locals := 0 } : Room) (some .int) (18, [.val (.int i), .val (.int n)], [], A, 0, 0) (some (.int (T0 n i))) A := by
  refine Ends.st (b := (19, _, _, _, 0, 0)) (s_iloadN d3_18 rfl) ?_
  refine Ends.st (b := (22, _, _, _, 0, 0)) (s_ldcw (hw _ (List.mem_of_getElem? (i := 22) rfl)) d3_19) ?_
  refine Ends.icmp_lt (pc' := 33) d3_22 (by decide) (by decide) (fun h => ?_) (fun h => ?_)
  · skip
    rw [show T0 n i = _ from if_pos h]
    exact n1 hw _ _
  · skip
    rw [show T0 n i = _ from if_neg h]
    refine Ends.st (b := (28, [_, _], _, _, 0, 0)) (s_iinc d3_25 rfl rfl rfl) ?_
    refine Ends.st (b := (29, _, _, _, 0, 0)) (s_iloadN d3_28 rfl) ?_
    refine Ends.st (b := (31, _, _, _, 0, 0)) (s_bipush (z := 16) d3_29 (by decide)) ?_
    refine Ends.st (b := (32, _, _, _, 0, 0)) (s_iushr d3_31) ?_
    refine Ends.st (b := (33, [_, _], _, _, 0, 0)) (s_istoreN d3_32 rfl) ?_
    exact n1 hw _ _
theorem mnlz {l : Launch} {Z : State} {a0 : Array Value} (hw : ∀ d ∈ tables_1, d.before a0 Z = true) {ρ : oM} {A : oH} (i : Int32) : Met l Z CK ρ (⟨"java/lang/Integer", "numberOfLeadingZeros", "(I)I"⟩ : MethodName) jdk_33_method_47_code 2 (some .int) ({ frames := 0, cells := 0, slots := 0, locals := 0 } : Room) [] [.int i] A (some (.int (nlz i))) A := by
  refine Met.of (L0 := [.val (.int i), .unset]) pn3 (oentry rfl) rfl ?_
  refine Ends.st (b := (1, _, _, _, 0, 0)) (s_iloadN d3_0 rfl) ?_
  refine Ends.if_gt (pc' := 15) d3_1 (by decide) (by decide) (fun h => ?_) (fun h => ?_)
  · skip
    rw [show nlz i = _ from if_pos h]
    refine Ends.st (b := (17, _, _, _, 0, 0)) (s_bipush (z := 31) d3_15 (by decide)) ?_
    refine Ends.st (b := (18, [_, _], _, _, 0, 0)) (s_istoreN d3_17 rfl) ?_
    exact n0 hw _ _
  · skip
    refine Ends.st (b := (5, _, _, _, 0, 0)) (s_iloadN d3_4 rfl) ?_
    refine Ends.if_ne (pc' := 13) d3_5 (by decide) (by decide) (fun g => ?_) (fun g => ?_)
    · skip
      rw [show nlz i = 0 from (if_neg h).trans (if_pos g)]
      refine Ends.st (b := (14, _, _, _, 0, 0)) (s_iconst (z := 0) d3_13 rfl) ?_
      exact e_ireturn d3_14 rfl (by decide) (by decide)
    · skip
      rw [show nlz i = 32 from (if_neg h).trans (if_neg (fun z => z g))]
      refine Ends.st (b := (10, _, _, _, 0, 0)) (s_bipush (z := 32) d3_8 (by decide)) ?_
      refine Ends.st (b := (14, _, _, _, 0, 0)) (s_goto d3_10 (by decide) (by decide)) ?_
      exact e_ireturn d3_14 rfl (by decide) (by decide)
theorem lTurn {l : Launch} {Z : State} {a0 : Array Value} (hw : ∀ d ∈ tables_1, d.before a0 Z = true) {ρ : oM} {ls ws ss ms : List Value} {v3 v4 : Value} {sl : Slot} (w u k p N unc : Nat) (x : Int32) (hsl : One sl) (hN : N ≤ 8) (hun : unc ≤ N) (hp : p < N) (hw9 : w ≤ 1000) (hu : u ≤ 64) (hk : k ≤ 32) (hl : ls.length = N) (h1 : ws.length = N) (h2 : ss.length = N) (h3 : ms.length = N) (hx : ls[p]? = some (.int x)) (hx0 : ¬ x < 0) (hz : nlz x = Int32.ofNat (32 - k)) : Sim l Z CK ρ "com/example/linearis/linearis/bundled/Layout" "<init>" prog_32_method_1_code 7 ({ frames := 1, cells := 3, slots := 24, locals := 16 } : Room) (62, [.val (.ref 1), .val (.ref 0), .val (.int (Int32.ofNat unc)), .val (.int (Int32.ofNat (w))), .val (.int (Int32.ofNat (u))), .val (.int (Int32.ofNat (p))), sl], [], [.inr (.int, ls), .inl (0, [.ref 2, .ref 3, .ref 4, v3, v4]), .inr (.int, ws), .inr (.int, ss), .inr (.long, ms)], 3, 24) (62, [.val (.ref 1), .val (.ref 0), .val (.int (Int32.ofNat unc)), .val (.int (Int32.ofNat ((lcur w u k p unc).1))), .val (.int (Int32.ofNat ((lcur w u k p unc).2 + k))), .val (.int (Int32.ofNat (p + 1))), .val (.int (Int32.ofNat k))], [], [.inr (.int, ls), .inl (0, [.ref 2, .ref 3, .ref 4, v3, v4]), .inr (.int, ws.set p (.int (Int32.ofNat (lcur w u k p unc).1))), .inr (.int, ss.set p (.int (Int32.ofNat (lcur w u k p unc).2))), .inr (.long, ms.set p (.long (mk k)))], 3, 24) := by
  refine Sim.tr (b := (64, _, _, _, 3, 24)) (s_iload d1_62 rfl) ?_
  refine Sim.tr (b := (65, _, _, _, 3, 24)) (s_aloadN d1_64 rfl rfl) ?_
  refine Sim.tr (b := (66, _, _, _, 3, 24)) (s_arraylength d1_65 rfl) ?_
  rw [hl]
  refine Sim.tr (b := (69, _, _, _, 3, 24)) (s_icmp_ge_f d1_66 ((lt_of (by omega) (by omega)).mpr hp)) ?_
  refine Sim.tr (b := (70, _, _, _, 3, 24)) (s_aloadN d1_69 rfl rfl) ?_
  refine Sim.tr (b := (72, _, _, _, 3, 24)) (s_iload d1_70 rfl) ?_
  refine Sim.tr (b := (73, _, _, _, 3, 24)) (s_iaload d1_72 rfl (nneg_of (by omega)) (by rw [tnc_of (by omega)]; exact hx)) ?_
  refine Sim.tr (b := (95, _, _, _, 3, 24)) (s_if_ge_t d1_73 hx0 (by decide) (by decide)) ?_
  refine Sim.tr (b := (97, _, _, _, 3, 24)) (s_bipush (z := 32) d1_95 (by decide)) ?_
  refine Sim.tr (b := (98, _, _, _, 3, 24)) (s_aloadN d1_97 rfl rfl) ?_
  refine Sim.tr (b := (100, _, _, _, 3, 24)) (s_iload d1_98 rfl) ?_
  refine Sim.tr (b := (101, _, _, _, 3, 24)) (s_iaload d1_100 rfl (nneg_of (by omega)) (by rw [tnc_of (by omega)]; exact hx)) ?_
  refine Sim.tr (b := (104, _, [_, _], _, 3, 24)) (s_callS (W := 1) (hw _ (List.mem_of_getElem? (i := 18) rfl)) (hw _ (List.mem_of_getElem? (i := 19) rfl)) (hw _ (List.mem_of_getElem? (i := 20) rfl)) (hw _ (List.mem_of_getElem? (i := 21) rfl)) (by decide) (lenOf pd3 rfl) d1_101 (mnlz hw _) rfl rfl (by decide) (by decide) (by decide) (by decide)) ?_
  refine Sim.tr (b := (105, _, _, _, 3, 24)) (s_isub d1_104) ?_
  rw [hz, show (32 : Int32) = Int32.ofNat 32 from rfl, of_sub (by omega) (by omega), show 32 - (32 - k) = k by omega]
  refine Sim.tr (b := (107, [_, _, _, _, _, _, _], _, _, 3, 24)) (s_istore d1_105 (oSt_one rfl hsl rfl)) ?_
  refine Sim.tr (b := (109, _, _, _, 3, 24)) (s_iload d1_107 rfl) ?_
  refine Sim.tr (b := (111, _, _, _, 3, 24)) (s_iload d1_109 rfl) ?_
  refine Sim.tr (b := (112, _, _, _, 3, 24)) (s_iadd d1_111) ?_
  refine Sim.tr (b := (114, _, _, _, 3, 24)) (s_bipush (z := 64) d1_112 (by decide)) ?_
  rw [of_add, show (64 : Int32) = Int32.ofNat 64 from rfl]
  refine Sim.icmp_gt (pc' := 128) d1_114 (by decide) (by decide) (fun g1 => ?_) (fun g1 => ?_)
  · skip
    rw [show lcur w u k p unc = (w + 1, 0) from if_pos (by first | exact Or.inl (by rw [lt_of (by omega) (by omega)] at g1; exact g1) | exact Or.inr ⟨(eq_of (by omega) (by omega)).mp g2, by have := (lt_of (i := 0) (by omega) (by omega)).mp g3; exact this⟩)]
    refine Sim.tr (b := (131, [_, _, _, _, _, _, _], _, _, 3, 24)) (s_iinc (z' := (Int32.ofNat (w + 1))) d1_128 rfl (one_up w) rfl) ?_
    refine Sim.tr (b := (132, _, _, _, 3, 24)) (s_iconst (z := 0) d1_131 rfl) ?_
    refine Sim.tr (b := (134, [_, _, _, _, _, _, _], _, _, 3, 24)) (s_istore d1_132 rfl) ?_
    refine Sim.tr (b := (135, _, _, _, 3, 24)) (s_aloadN d1_134 rfl rfl) ?_
    refine Sim.tr (b := (138, _, _, _, 3, 24)) (s_getfield (cid := 0) (i := 0) (hw _ (List.mem_of_getElem? (i := 11) rfl)) rfl d1_135 rfl rfl) ?_
    refine Sim.tr (b := (140, _, _, _, 3, 24)) (s_iload d1_138 rfl) ?_
    refine Sim.tr (b := (141, _, _, _, 3, 24)) (s_iloadN d1_140 rfl) ?_
    refine Sim.tr (b := (142, _, _, [_, _, .inr (_, ws.set p _), _, _], 3, 24)) (s_iastore d1_141 rfl (nneg_of (by omega)) (by rw [tnc_of (by omega)]; omega) (by rw [tnc_of (by omega)]; rfl)) ?_
    refine Sim.tr (b := (143, _, _, _, 3, 24)) (s_aloadN d1_142 rfl rfl) ?_
    refine Sim.tr (b := (146, _, _, _, 3, 24)) (s_getfield (cid := 0) (i := 1) (hw _ (List.mem_of_getElem? (i := 13) rfl)) rfl d1_143 rfl rfl) ?_
    refine Sim.tr (b := (148, _, _, _, 3, 24)) (s_iload d1_146 rfl) ?_
    refine Sim.tr (b := (150, _, _, _, 3, 24)) (s_iload d1_148 rfl) ?_
    refine Sim.tr (b := (151, _, _, [_, _, _, .inr (_, ss.set p _), _], 3, 24)) (s_iastore d1_150 rfl (nneg_of (by omega)) (by rw [tnc_of (by omega)]; omega) (by rw [tnc_of (by omega)]; rfl)) ?_
    refine Sim.tr (b := (152, _, _, _, 3, 24)) (s_aloadN d1_151 rfl rfl) ?_
    refine Sim.tr (b := (155, _, _, _, 3, 24)) (s_getfield (cid := 0) (i := 2) (hw _ (List.mem_of_getElem? (i := 16) rfl)) rfl d1_152 rfl rfl) ?_
    refine Sim.tr (b := (157, _, _, _, 3, 24)) (s_iload d1_155 rfl) ?_
    refine Sim.tr (b := (158, _, _, _, 3, 24)) (s_lconst (z := 1) d1_157 rfl) ?_
    refine Sim.tr (b := (160, _, _, _, 3, 24)) (s_iload d1_158 rfl) ?_
    refine Sim.tr (b := (161, _, _, _, 3, 24)) (s_lshl d1_160) ?_
    refine Sim.tr (b := (162, _, _, _, 3, 24)) (s_lconst (z := 1) d1_161 rfl) ?_
    refine Sim.tr (b := (163, _, _, _, 3, 24)) (s_lsub d1_162) ?_
    refine Sim.tr (b := (164, _, _, [_, _, _, _, .inr (_, ms.set p _)], 3, 24)) (s_lastore d1_163 rfl (nneg_of (by omega)) (by rw [tnc_of (by omega)]; omega) (by rw [tnc_of (by omega)]; rfl)) ?_
    refine Sim.tr (b := (166, _, _, _, 3, 24)) (s_iload d1_164 rfl) ?_
    refine Sim.tr (b := (168, _, _, _, 3, 24)) (s_iload d1_166 rfl) ?_
    refine Sim.tr (b := (169, _, _, _, 3, 24)) (s_iadd d1_168) ?_
    first | rw [of_add] | rw [show (0 : Int32) = Int32.ofNat 0 from rfl, of_add]
    refine Sim.tr (b := (171, [_, _, _, _, _, _, _], _, _, 3, 24)) (s_istore d1_169 rfl) ?_
    refine Sim.tr (b := (174, [_, _, _, _, _, _, _], _, _, 3, 24)) (s_iinc (z' := (Int32.ofNat (p + 1))) d1_171 rfl (one_up p) rfl) ?_
    refine Sim.tr (b := (62, _, _, _, 3, 24)) (s_goto d1_174 (by decide) (by decide)) ?_
    exact Sim.rf _
  · skip
    refine Sim.tr (b := (119, _, _, _, 3, 24)) (s_iload d1_117 rfl) ?_
    refine Sim.tr (b := (120, _, _, _, 3, 24)) (s_iloadN d1_119 rfl) ?_
    refine Sim.icmp_ne (pc' := 134) d1_120 (by decide) (by decide) (fun g2 => ?_) (fun g2 => ?_)
    · skip
      rw [show lcur w u k p unc = (w, u) from if_neg (fun q => q.elim (fun z => g1 ((lt_of (by omega) (by omega)).mpr z)) (fun z => by first | exact g2 ((eq_of (by omega) (by omega)).mpr z.1) | exact g3 ((lt_of (i := 0) (by omega) (by omega)).mpr z.2)))]
      refine Sim.tr (b := (135, _, _, _, 3, 24)) (s_aloadN d1_134 rfl rfl) ?_
      refine Sim.tr (b := (138, _, _, _, 3, 24)) (s_getfield (cid := 0) (i := 0) (hw _ (List.mem_of_getElem? (i := 11) rfl)) rfl d1_135 rfl rfl) ?_
      refine Sim.tr (b := (140, _, _, _, 3, 24)) (s_iload d1_138 rfl) ?_
      refine Sim.tr (b := (141, _, _, _, 3, 24)) (s_iloadN d1_140 rfl) ?_
      refine Sim.tr (b := (142, _, _, [_, _, .inr (_, ws.set p _), _, _], 3, 24)) (s_iastore d1_141 rfl (nneg_of (by omega)) (by rw [tnc_of (by omega)]; omega) (by rw [tnc_of (by omega)]; rfl)) ?_
      refine Sim.tr (b := (143, _, _, _, 3, 24)) (s_aloadN d1_142 rfl rfl) ?_
      refine Sim.tr (b := (146, _, _, _, 3, 24)) (s_getfield (cid := 0) (i := 1) (hw _ (List.mem_of_getElem? (i := 13) rfl)) rfl d1_143 rfl rfl) ?_
      refine Sim.tr (b := (148, _, _, _, 3, 24)) (s_iload d1_146 rfl) ?_
      refine Sim.tr (b := (150, _, _, _, 3, 24)) (s_iload d1_148 rfl) ?_
      refine Sim.tr (b := (151, _, _, [_, _, _, .inr (_, ss.set p _), _], 3, 24)) (s_iastore d1_150 rfl (nneg_of (by omega)) (by rw [tnc_of (by omega)]; omega) (by rw [tnc_of (by omega)]; rfl)) ?_
      refine Sim.tr (b := (152, _, _, _, 3, 24)) (s_aloadN d1_151 rfl rfl) ?_
      refine Sim.tr (b := (155, _, _, _, 3, 24)) (s_getfield (cid := 0) (i := 2) (hw _ (List.mem_of_getElem? (i := 16) rfl)) rfl d1_152 rfl rfl) ?_
      refine Sim.tr (b := (157, _, _, _, 3, 24)) (s_iload d1_155 rfl) ?_
      refine Sim.tr (b := (158, _, _, _, 3, 24)) (s_lconst (z := 1) d1_157 rfl) ?_
      refine Sim.tr (b := (160, _, _, _, 3, 24)) (s_iload d1_158 rfl) ?_
      refine Sim.tr (b := (161, _, _, _, 3, 24)) (s_lshl d1_160) ?_
      refine Sim.tr (b := (162, _, _, _, 3, 24)) (s_lconst (z := 1) d1_161 rfl) ?_
      refine Sim.tr (b := (163, _, _, _, 3, 24)) (s_lsub d1_162) ?_
      refine Sim.tr (b := (164, _, _, [_, _, _, _, .inr (_, ms.set p _)], 3, 24)) (s_lastore d1_163 rfl (nneg_of (by omega)) (by rw [tnc_of (by omega)]; omega) (by rw [tnc_of (by omega)]; rfl)) ?_
      refine Sim.tr (b := (166, _, _, _, 3, 24)) (s_iload d1_164 rfl) ?_
      refine Sim.tr (b := (168, _, _, _, 3, 24)) (s_iload d1_166 rfl) ?_
      refine Sim.tr (b := (169, _, _, _, 3, 24)) (s_iadd d1_168) ?_
      first | rw [of_add] | rw [show (0 : Int32) = Int32.ofNat 0 from rfl, of_add]
      refine Sim.tr (b := (171, [_, _, _, _, _, _, _], _, _, 3, 24)) (s_istore d1_169 rfl) ?_
      refine Sim.tr (b := (174, [_, _, _, _, _, _, _], _, _, 3, 24)) (s_iinc (z' := (Int32.ofNat (p + 1))) d1_171 rfl (one_up p) rfl) ?_
      refine Sim.tr (b := (62, _, _, _, 3, 24)) (s_goto d1_174 (by decide) (by decide)) ?_
      exact Sim.rf _
    · skip
      refine Sim.tr (b := (125, _, _, _, 3, 24)) (s_iload d1_123 rfl) ?_
      refine Sim.if_le (pc' := 134) d1_125 (by decide) (by decide) (fun g3 => ?_) (fun g3 => ?_)
      · skip
        rw [show lcur w u k p unc = (w, u) from if_neg (fun q => q.elim (fun z => g1 ((lt_of (by omega) (by omega)).mpr z)) (fun z => by first | exact g2 ((eq_of (by omega) (by omega)).mpr z.1) | exact g3 ((lt_of (i := 0) (by omega) (by omega)).mpr z.2)))]
        refine Sim.tr (b := (135, _, _, _, 3, 24)) (s_aloadN d1_134 rfl rfl) ?_
        refine Sim.tr (b := (138, _, _, _, 3, 24)) (s_getfield (cid := 0) (i := 0) (hw _ (List.mem_of_getElem? (i := 11) rfl)) rfl d1_135 rfl rfl) ?_
        refine Sim.tr (b := (140, _, _, _, 3, 24)) (s_iload d1_138 rfl) ?_
        refine Sim.tr (b := (141, _, _, _, 3, 24)) (s_iloadN d1_140 rfl) ?_
        refine Sim.tr (b := (142, _, _, [_, _, .inr (_, ws.set p _), _, _], 3, 24)) (s_iastore d1_141 rfl (nneg_of (by omega)) (by rw [tnc_of (by omega)]; omega) (by rw [tnc_of (by omega)]; rfl)) ?_
        refine Sim.tr (b := (143, _, _, _, 3, 24)) (s_aloadN d1_142 rfl rfl) ?_
        refine Sim.tr (b := (146, _, _, _, 3, 24)) (s_getfield (cid := 0) (i := 1) (hw _ (List.mem_of_getElem? (i := 13) rfl)) rfl d1_143 rfl rfl) ?_
        refine Sim.tr (b := (148, _, _, _, 3, 24)) (s_iload d1_146 rfl) ?_
        refine Sim.tr (b := (150, _, _, _, 3, 24)) (s_iload d1_148 rfl) ?_
        refine Sim.tr (b := (151, _, _, [_, _, _, .inr (_, ss.set p _), _], 3, 24)) (s_iastore d1_150 rfl (nneg_of (by omega)) (by rw [tnc_of (by omega)]; omega) (by rw [tnc_of (by omega)]; rfl)) ?_
        refine Sim.tr (b := (152, _, _, _, 3, 24)) (s_aloadN d1_151 rfl rfl) ?_
        refine Sim.tr (b := (155, _, _, _, 3, 24)) (s_getfield (cid := 0) (i := 2) (hw _ (List.mem_of_getElem? (i := 16) rfl)) rfl d1_152 rfl rfl) ?_
        refine Sim.tr (b := (157, _, _, _, 3, 24)) (s_iload d1_155 rfl) ?_
        refine Sim.tr (b := (158, _, _, _, 3, 24)) (s_lconst (z := 1) d1_157 rfl) ?_
        refine Sim.tr (b := (160, _, _, _, 3, 24)) (s_iload d1_158 rfl) ?_
        refine Sim.tr (b := (161, _, _, _, 3, 24)) (s_lshl d1_160) ?_
        refine Sim.tr (b := (162, _, _, _, 3, 24)) (s_lconst (z := 1) d1_161 rfl) ?_
        refine Sim.tr (b := (163, _, _, _, 3, 24)) (s_lsub d1_162) ?_
        refine Sim.tr (b := (164, _, _, [_, _, _, _, .inr (_, ms.set p _)], 3, 24)) (s_lastore d1_163 rfl (nneg_of (by omega)) (by rw [tnc_of (by omega)]; omega) (by rw [tnc_of (by omega)]; rfl)) ?_
        refine Sim.tr (b := (166, _, _, _, 3, 24)) (s_iload d1_164 rfl) ?_
        refine Sim.tr (b := (168, _, _, _, 3, 24)) (s_iload d1_166 rfl) ?_
        refine Sim.tr (b := (169, _, _, _, 3, 24)) (s_iadd d1_168) ?_
        first | rw [of_add] | rw [show (0 : Int32) = Int32.ofNat 0 from rfl, of_add]
        refine Sim.tr (b := (171, [_, _, _, _, _, _, _], _, _, 3, 24)) (s_istore d1_169 rfl) ?_
        refine Sim.tr (b := (174, [_, _, _, _, _, _, _], _, _, 3, 24)) (s_iinc (z' := (Int32.ofNat (p + 1))) d1_171 rfl (one_up p) rfl) ?_
        refine Sim.tr (b := (62, _, _, _, 3, 24)) (s_goto d1_174 (by decide) (by decide)) ?_
        exact Sim.rf _
      · skip
        rw [show lcur w u k p unc = (w + 1, 0) from if_pos (by first | exact Or.inl (by rw [lt_of (by omega) (by omega)] at g1; exact g1) | exact Or.inr ⟨(eq_of (by omega) (by omega)).mp g2, by have := (lt_of (i := 0) (by omega) (by omega)).mp g3; exact this⟩)]
        refine Sim.tr (b := (131, [_, _, _, _, _, _, _], _, _, 3, 24)) (s_iinc (z' := (Int32.ofNat (w + 1))) d1_128 rfl (one_up w) rfl) ?_
        refine Sim.tr (b := (132, _, _, _, 3, 24)) (s_iconst (z := 0) d1_131 rfl) ?_
        refine Sim.tr (b := (134, [_, _, _, _, _, _, _], _, _, 3, 24)) (s_istore d1_132 rfl) ?_
        refine Sim.tr (b := (135, _, _, _, 3, 24)) (s_aloadN d1_134 rfl rfl) ?_
        refine Sim.tr (b := (138, _, _, _, 3, 24)) (s_getfield (cid := 0) (i := 0) (hw _ (List.mem_of_getElem? (i := 11) rfl)) rfl d1_135 rfl rfl) ?_
        refine Sim.tr (b := (140, _, _, _, 3, 24)) (s_iload d1_138 rfl) ?_
        refine Sim.tr (b := (141, _, _, _, 3, 24)) (s_iloadN d1_140 rfl) ?_
        refine Sim.tr (b := (142, _, _, [_, _, .inr (_, ws.set p _), _, _], 3, 24)) (s_iastore d1_141 rfl (nneg_of (by omega)) (by rw [tnc_of (by omega)]; omega) (by rw [tnc_of (by omega)]; rfl)) ?_
        refine Sim.tr (b := (143, _, _, _, 3, 24)) (s_aloadN d1_142 rfl rfl) ?_
        refine Sim.tr (b := (146, _, _, _, 3, 24)) (s_getfield (cid := 0) (i := 1) (hw _ (List.mem_of_getElem? (i := 13) rfl)) rfl d1_143 rfl rfl) ?_
        refine Sim.tr (b := (148, _, _, _, 3, 24)) (s_iload d1_146 rfl) ?_
        refine Sim.tr (b := (150, _, _, _, 3, 24)) (s_iload d1_148 rfl) ?_
        refine Sim.tr (b := (151, _, _, [_, _, _, .inr (_, ss.set p _), _], 3, 24)) (s_iastore d1_150 rfl (nneg_of (by omega)) (by rw [tnc_of (by omega)]; omega) (by rw [tnc_of (by omega)]; rfl)) ?_
        refine Sim.tr (b := (152, _, _, _, 3, 24)) (s_aloadN d1_151 rfl rfl) ?_
        refine Sim.tr (b := (155, _, _, _, 3, 24)) (s_getfield (cid := 0) (i := 2) (hw _ (List.mem_of_getElem? (i := 16) rfl)) rfl d1_152 rfl rfl) ?_
        refine Sim.tr (b := (157, _, _, _, 3, 24)) (s_iload d1_155 rfl) ?_
        refine Sim.tr (b := (158, _, _, _, 3, 24)) (s_lconst (z := 1) d1_157 rfl) ?_
        refine Sim.tr (b := (160, _, _, _, 3, 24)) (s_iload d1_158 rfl) ?_
        refine Sim.tr (b := (161, _, _, _, 3, 24)) (s_lshl d1_160) ?_
        refine Sim.tr (b := (162, _, _, _, 3, 24)) (s_lconst (z := 1) d1_161 rfl) ?_
        refine Sim.tr (b := (163, _, _, _, 3, 24)) (s_lsub d1_162) ?_
        refine Sim.tr (b := (164, _, _, [_, _, _, _, .inr (_, ms.set p _)], 3, 24)) (s_lastore d1_163 rfl (nneg_of (by omega)) (by rw [tnc_of (by omega)]; omega) (by rw [tnc_of (by omega)]; rfl)) ?_
        refine Sim.tr (b := (166, _, _, _, 3, 24)) (s_iload d1_164 rfl) ?_
        refine Sim.tr (b := (168, _, _, _, 3, 24)) (s_iload d1_166 rfl) ?_
        refine Sim.tr (b := (169, _, _, _, 3, 24)) (s_iadd d1_168) ?_
        first | rw [of_add] | rw [show (0 : Int32) = Int32.ofNat 0 from rfl, of_add]
        refine Sim.tr (b := (171, [_, _, _, _, _, _, _], _, _, 3, 24)) (s_istore d1_169 rfl) ?_
        refine Sim.tr (b := (174, [_, _, _, _, _, _, _], _, _, 3, 24)) (s_iinc (z' := (Int32.ofNat (p + 1))) d1_171 rfl (one_up p) rfl) ?_
        refine Sim.tr (b := (62, _, _, _, 3, 24)) (s_goto d1_174 (by decide) (by decide)) ?_
        exact Sim.rf _
theorem lExit {l : Launch} {Z : State} {a0 : Array Value} (hw : ∀ d ∈ tables_1, d.before a0 Z = true) {ρ : oM} {ls ws ss ms : List Value} {v3 v4 : Value} {sl : Slot} (w u N unc : Nat) (hN : N ≤ 8) (hun : unc ≤ N) (hw9 : w ≤ 1000) (hl : ls.length = N) (h1 : ws.length = N) (h2 : ∀ j, j < N → ∃ z : Int32, ws[j]? = some (.int z)) : ∃ a b : Int32, Ends l Z CK ρ "com/example/linearis/linearis/bundled/Layout" "<init>" prog_32_method_1_code 7 ({ frames := 1, cells := 3, slots := 24, locals := 16 } : Room) none (62, [.val (.ref 1), .val (.ref 0), .val (.int (Int32.ofNat unc)), .val (.int (Int32.ofNat (w))), .val (.int (Int32.ofNat (u))), .val (.int (Int32.ofNat (N))), sl], [], [.inr (.int, ls), .inl (0, [.ref 2, .ref 3, .ref 4, v3, v4]), .inr (.int, ws), .inr (.int, ss), .inr (.long, ms)], 3, 24) none [.inr (.int, ls), .inl (0, [.ref 2, .ref 3, .ref 4, .int a, .int b]), .inr (.int, ws), .inr (.int, ss), .inr (.long, ms)] := by
  by_cases hq : unc = N
  · refine ⟨Int32.ofNat w + 1, Int32.ofNat w + 1, ?_⟩
    refine Ends.st (b := (64, _, _, _, 3, 24)) (s_iload d1_62 rfl) ?_
    refine Ends.st (b := (65, _, _, _, 3, 24)) (s_aloadN d1_64 rfl rfl) ?_
    refine Ends.st (b := (66, _, _, _, 3, 24)) (s_arraylength d1_65 rfl) ?_
    rw [hl]
    refine Ends.st (b := (177, _, _, _, 3, 24)) (s_icmp_ge_t d1_66 (fun z => by rw [lt_of (by omega) (by omega)] at z; omega) (by decide) (by decide)) ?_
    refine Ends.st (b := (178, _, _, _, 3, 24)) (s_aloadN d1_177 rfl rfl) ?_
    refine Ends.st (b := (179, _, _, _, 3, 24)) (s_iloadN d1_178 rfl) ?_
    refine Ends.st (b := (180, _, _, _, 3, 24)) (s_iconst (z := 1) d1_179 rfl) ?_
    refine Ends.st (b := (181, _, _, _, 3, 24)) (s_iadd d1_180) ?_
    refine Ends.st (b := (184, _, _, [_, .inl (_, [_, _, _, _, _]), _, _, _], 3, 24)) (s_putfield (cid := 0) (i := 3) (hw _ (List.mem_of_getElem? (i := 23) rfl)) (kok0 hw) rfl (Or.inr ⟨(hw _ (List.mem_of_getElem? (i := 24) rfl)), rfl, rfl⟩) (hw _ (List.mem_of_getElem? (i := 3) rfl)) (ty := .int) (by decide) rfl rfl d1_181 rfl rfl rfl) ?_
    refine Ends.st (b := (185, _, _, _, 3, 24)) (s_aloadN d1_184 rfl rfl) ?_
    refine Ends.st (b := (186, _, _, _, 3, 24)) (s_iloadN d1_185 rfl) ?_
    refine Ends.st (b := (187, _, _, _, 3, 24)) (s_aloadN d1_186 rfl rfl) ?_
    refine Ends.st (b := (188, _, _, _, 3, 24)) (s_arraylength d1_187 rfl) ?_
    rw [hl]
    refine Ends.st (b := (191, _, _, _, 3, 24)) (s_icmp_ne_f d1_188 (by rw [hq])) ?_
    refine Ends.st (b := (192, _, _, _, 3, 24)) (s_aloadN d1_191 rfl rfl) ?_
    refine Ends.st (b := (195, _, _, _, 3, 24)) (s_getfield (cid := 0) (i := 3) (hw _ (List.mem_of_getElem? (i := 23) rfl)) rfl d1_192 rfl rfl) ?_
    refine Ends.st (b := (204, _, _, _, 3, 24)) (s_goto d1_195 (by decide) (by decide)) ?_
    refine Ends.st (b := (207, _, _, [_, .inl (_, [_, _, _, _, _]), _, _, _], 3, 24)) (s_putfield (cid := 0) (i := 4) (hw _ (List.mem_of_getElem? (i := 25) rfl)) (kok0 hw) rfl (Or.inr ⟨(hw _ (List.mem_of_getElem? (i := 26) rfl)), rfl, rfl⟩) (hw _ (List.mem_of_getElem? (i := 3) rfl)) (ty := .int) (by decide) rfl rfl d1_204 rfl rfl rfl) ?_
    exact e_return d1_207 rfl (by decide) (by decide)
  · obtain ⟨z, hz⟩ := h2 unc (by omega)
    refine ⟨Int32.ofNat w + 1, z, ?_⟩
    refine Ends.st (b := (64, _, _, _, 3, 24)) (s_iload d1_62 rfl) ?_
    refine Ends.st (b := (65, _, _, _, 3, 24)) (s_aloadN d1_64 rfl rfl) ?_
    refine Ends.st (b := (66, _, _, _, 3, 24)) (s_arraylength d1_65 rfl) ?_
    rw [hl]
    refine Ends.st (b := (177, _, _, _, 3, 24)) (s_icmp_ge_t d1_66 (fun z => by rw [lt_of (by omega) (by omega)] at z; omega) (by decide) (by decide)) ?_
    refine Ends.st (b := (178, _, _, _, 3, 24)) (s_aloadN d1_177 rfl rfl) ?_
    refine Ends.st (b := (179, _, _, _, 3, 24)) (s_iloadN d1_178 rfl) ?_
    refine Ends.st (b := (180, _, _, _, 3, 24)) (s_iconst (z := 1) d1_179 rfl) ?_
    refine Ends.st (b := (181, _, _, _, 3, 24)) (s_iadd d1_180) ?_
    refine Ends.st (b := (184, _, _, [_, .inl (_, [_, _, _, _, _]), _, _, _], 3, 24)) (s_putfield (cid := 0) (i := 3) (hw _ (List.mem_of_getElem? (i := 23) rfl)) (kok0 hw) rfl (Or.inr ⟨(hw _ (List.mem_of_getElem? (i := 24) rfl)), rfl, rfl⟩) (hw _ (List.mem_of_getElem? (i := 3) rfl)) (ty := .int) (by decide) rfl rfl d1_181 rfl rfl rfl) ?_
    refine Ends.st (b := (185, _, _, _, 3, 24)) (s_aloadN d1_184 rfl rfl) ?_
    refine Ends.st (b := (186, _, _, _, 3, 24)) (s_iloadN d1_185 rfl) ?_
    refine Ends.st (b := (187, _, _, _, 3, 24)) (s_aloadN d1_186 rfl rfl) ?_
    refine Ends.st (b := (188, _, _, _, 3, 24)) (s_arraylength d1_187 rfl) ?_
    rw [hl]
    refine Ends.st (b := (198, _, _, _, 3, 24)) (s_icmp_ne_t d1_188 (fun y => hq ((eq_of (by omega) (by omega)).mp y)) (by decide) (by decide)) ?_
    refine Ends.st (b := (199, _, _, _, 3, 24)) (s_aloadN d1_198 rfl rfl) ?_
    refine Ends.st (b := (202, _, _, _, 3, 24)) (s_getfield (cid := 0) (i := 0) (hw _ (List.mem_of_getElem? (i := 11) rfl)) rfl d1_199 rfl rfl) ?_
    refine Ends.st (b := (203, _, _, _, 3, 24)) (s_iloadN d1_202 rfl) ?_
    refine Ends.st (b := (204, _, _, _, 3, 24)) (s_iaload d1_203 rfl (nneg_of (by omega)) (by rw [tnc_of (by omega)]; exact hz)) ?_
    refine Ends.st (b := (207, _, _, [_, .inl (_, [_, _, _, _, _]), _, _, _], 3, 24)) (s_putfield (cid := 0) (i := 4) (hw _ (List.mem_of_getElem? (i := 25) rfl)) (kok0 hw) rfl (Or.inr ⟨(hw _ (List.mem_of_getElem? (i := 26) rfl)), rfl, rfl⟩) (hw _ (List.mem_of_getElem? (i := 3) rfl)) (ty := .int) (by decide) rfl rfl d1_204 rfl rfl rfl) ?_
    exact e_return d1_207 rfl (by decide) (by decide)
theorem lLoop {l : Launch} {Z : State} {a0 : Array Value} (hw : ∀ d ∈ tables_1, d.before a0 Z = true) {ρ : oM} {ls : List Value} {v3 v4 : Value} (k : Nat → Nat) (x : Nat → Int32) (N unc : Nat) (hN : N ≤ 8) (hun : unc ≤ N) (hk : ∀ p, k p ≤ 32) (hl : ls.length = N) (hx : ∀ p, p < N → ls[p]? = some (.int (x p)) ∧ ¬ x p < 0 ∧ nlz (x p) = Int32.ofNat (32 - k p)) (d : Nat) :
    ∀ (p : Nat) (ws ss ms : List Value) (sl : Slot), One sl → p + d = N → ws.length = N → ss.length = N → ms.length = N → (∀ j, j < p → ws[j]? = some (.int (Int32.ofNat (WU k unc j).1)) ∧ ss[j]? = some (.int (Int32.ofNat (WU k unc j).2)) ∧ ms[j]? = some (.long (mk (k j)))) →
    ∃ (ws' ss' ms' : List Value) (a b : Int32), (∀ j, j < N → ws'[j]? = some (.int (Int32.ofNat (WU k unc j).1)) ∧ ss'[j]? = some (.int (Int32.ofNat (WU k unc j).2)) ∧ ms'[j]? = some (.long (mk (k j)))) ∧ Ends l Z CK ρ "com/example/linearis/linearis/bundled/Layout" "<init>" prog_32_method_1_code 7 ({ frames := 1, cells := 3, slots := 24, locals := 16 } : Room) none (62, [.val (.ref 1), .val (.ref 0), .val (.int (Int32.ofNat unc)), .val (.int (Int32.ofNat ((LW k unc p).1))), .val (.int (Int32.ofNat ((LW k unc p).2))), .val (.int (Int32.ofNat (p))), sl], [], [.inr (.int, ls), .inl (0, [.ref 2, .ref 3, .ref 4, v3, v4]), .inr (.int, ws), .inr (.int, ss), .inr (.long, ms)], 3, 24) none [.inr (.int, ls), .inl (0, [.ref 2, .ref 3, .ref 4, .int a, .int b]), .inr (.int, ws'), .inr (.int, ss'), .inr (.long, ms')] := by
  induction d with
  | zero =>
    intro p ws ss ms sl hsl hp h1 h2 h3 hd
    obtain rfl : p = N := by omega
    have hb := LW_le k unc hk p
    obtain ⟨a, b, hE⟩ := lExit (l := l) (ρ := ρ) hw (v3 := v3) (v4 := v4) (sl := sl) (ss := ss) (ms := ms) (LW k unc p).1 (LW k unc p).2 p unc hN hun (by omega) hl h1 (fun j hj => ⟨_, (hd j hj).1⟩)
    exact ⟨ws, ss, ms, a, b, hd, hE⟩
  | succ d ih =>
    intro p ws ss ms sl hsl hp h1 h2 h3 hd
    have hb := LW_le k unc hk p
    obtain ⟨g1, g2, g3⟩ := hx p (by omega)
    obtain ⟨ws', ss', ms', a, b, hD, hE⟩ := ih (p + 1) (ws.set p (.int (Int32.ofNat (WU k unc p).1))) (ss.set p (.int (Int32.ofNat (WU k unc p).2))) (ms.set p (.long (mk (k p)))) (.val (.int (Int32.ofNat (k p)))) (One.val rfl) (by omega) (by rw [List.length_set]; exact h1) (by rw [List.length_set]; exact h2) (by rw [List.length_set]; exact h3) (fun j hj => by
      by_cases q : j = p
      · subst q
        exact ⟨List.getElem?_set_self (by omega), List.getElem?_set_self (by omega), List.getElem?_set_self (by omega)⟩
      · rw [List.getElem?_set_ne (Ne.symm q), List.getElem?_set_ne (Ne.symm q), List.getElem?_set_ne (Ne.symm q)]
        exact hd j (by omega))
    exact ⟨ws', ss', ms', a, b, hD, Ends.st (lTurn hw (LW k unc p).1 (LW k unc p).2 (k p) p N unc (x p) hsl hN hun (by omega) (by omega) (by omega) (hk p) hl h1 h2 h3 g1 g2 g3) hE⟩
theorem lMet {l : Launch} {Z : State} {a0 : Array Value} (hw : ∀ d ∈ tables_1, d.before a0 Z = true) {ρ : oM} {ls : List Value} (k : Nat → Nat) (x : Nat → Int32) (N unc : Nat) (hN : N ≤ 8) (hun : unc ≤ N) (hk : ∀ p, k p ≤ 32) (hl : ls.length = N) (hx : ∀ p, p < N → ls[p]? = some (.int (x p)) ∧ ¬ x p < 0 ∧ nlz (x p) = Int32.ofNat (32 - k p)) :
    ∃ (ws' ss' ms' : List Value) (a b : Int32), (∀ j, j < N → ws'[j]? = some (.int (Int32.ofNat (WU k unc j).1)) ∧ ss'[j]? = some (.int (Int32.ofNat (WU k unc j).2)) ∧ ms'[j]? = some (.long (mk (k j)))) ∧ Met l Z CK ρ (⟨"com/example/linearis/linearis/bundled/Layout", "<init>", "([II)V"⟩ : MethodName) prog_32_method_1_code 7 none ({ frames := 1, cells := 3, slots := 24, locals := 16 } : Room) [] [.ref 1, .ref 0, .int (Int32.ofNat unc)] [.inr (.int, ls), .inl (0, [.null, .null, .null, .int 0, .int 0])] none [.inr (.int, ls), .inl (0, [.ref 2, .ref 3, .ref 4, .int a, .int b]), .inr (.int, ws'), .inr (.int, ss'), .inr (.long, ms')] := by
  obtain ⟨ws', ss', ms', a, b, hD, hE⟩ := lLoop (l := l) (ρ := ρ) hw (v3 := .int 0) (v4 := .int 0) k x N unc hN hun hk hl hx N 0 (List.replicate N (.int 0)) (List.replicate N (.int 0)) (List.replicate N (.long 0)) .unset One.u (by omega) (by simp) (by simp) (by simp) (fun j hj => absurd hj (by omega))
  refine ⟨ws', ss', ms', a, b, hD, ?_⟩
  refine Met.of (L0 := [.val (.ref 1), .val (.ref 0), .val (.int (Int32.ofNat unc)), .unset, .unset, .unset, .unset]) pn1 (oentry rfl) rfl ?_
  refine Ends.st (b := (1, _, _, _, 0, 0)) (s_aloadN d1_0 rfl rfl) ?_
  refine Ends.st (b := (4, _, _, _, 0, 0)) (s_initO (W := 0) (hw _ (List.mem_of_getElem? (i := 8) rfl)) (hw _ (List.mem_of_getElem? (i := 9) rfl)) (hw _ (List.mem_of_getElem? (i := 10) rfl)) d1_1 (by decide) rfl (by decide)) ?_
  refine Ends.st (b := (5, _, _, _, 0, 0)) (s_iloadN d1_4 rfl) ?_
  refine Ends.st (b := (8, _, _, _, 0, 0)) (s_if_lt_f d1_5 (nneg_of (by omega))) ?_
  refine Ends.st (b := (9, _, _, _, 0, 0)) (s_iloadN d1_8 rfl) ?_
  refine Ends.st (b := (10, _, _, _, 0, 0)) (s_aloadN d1_9 rfl rfl) ?_
  refine Ends.st (b := (11, _, _, _, 0, 0)) (s_arraylength d1_10 rfl) ?_
  rw [hl]
  refine Ends.st (b := (30, _, _, _, 0, 0)) (s_icmp_le_t d1_11 (fun z => by rw [lt_of (by omega) (by omega)] at z; omega) (by decide) (by decide)) ?_
  refine Ends.st (b := (31, _, _, _, 0, 0)) (s_aloadN d1_30 rfl rfl) ?_
  refine Ends.st (b := (32, _, _, _, 0, 0)) (s_aloadN d1_31 rfl rfl) ?_
  refine Ends.st (b := (33, _, _, _, 0, 0)) (s_arraylength d1_32 rfl) ?_
  rw [hl]
  refine Ends.st (b := (35, _, _, [_, .inl (_, [_, _, _, _, _]), _], 1, 8)) (s_newarray (j := 2) (q := N) (cap := 8) (hw _ (List.mem_of_getElem? (i := 0) rfl)) d1_33 rfl (nneg_of (by omega)) (tnc_of (by omega)) hN (by decide) (by decide) (by decide) rfl) ?_
  refine Ends.st (b := (38, _, _, [_, .inl (_, [_, _, _, _, _]), _], 1, 8)) (s_putfield (cid := 0) (i := 0) (hw _ (List.mem_of_getElem? (i := 11) rfl)) (kok0 hw) rfl (Or.inr ⟨(hw _ (List.mem_of_getElem? (i := 12) rfl)), rfl, rfl⟩) (hw _ (List.mem_of_getElem? (i := 3) rfl)) (ty := (.array .int)) (by decide) rfl rfl d1_35 rfl rfl rfl) ?_
  refine Ends.st (b := (39, _, _, _, 1, 8)) (s_aloadN d1_38 rfl rfl) ?_
  refine Ends.st (b := (40, _, _, _, 1, 8)) (s_aloadN d1_39 rfl rfl) ?_
  refine Ends.st (b := (41, _, _, _, 1, 8)) (s_arraylength d1_40 rfl) ?_
  rw [hl]
  refine Ends.st (b := (43, _, _, [_, .inl (_, [_, _, _, _, _]), _, _], 2, 16)) (s_newarray (j := 3) (q := N) (cap := 8) (hw _ (List.mem_of_getElem? (i := 0) rfl)) d1_41 rfl (nneg_of (by omega)) (tnc_of (by omega)) hN (by decide) (by decide) (by decide) rfl) ?_
  refine Ends.st (b := (46, _, _, [_, .inl (_, [_, _, _, _, _]), _, _], 2, 16)) (s_putfield (cid := 0) (i := 1) (hw _ (List.mem_of_getElem? (i := 13) rfl)) (kok0 hw) rfl (Or.inr ⟨(hw _ (List.mem_of_getElem? (i := 14) rfl)), rfl, rfl⟩) (hw _ (List.mem_of_getElem? (i := 3) rfl)) (ty := (.array .int)) (by decide) rfl rfl d1_43 rfl rfl rfl) ?_
  refine Ends.st (b := (47, _, _, _, 2, 16)) (s_aloadN d1_46 rfl rfl) ?_
  refine Ends.st (b := (48, _, _, _, 2, 16)) (s_aloadN d1_47 rfl rfl) ?_
  refine Ends.st (b := (49, _, _, _, 2, 16)) (s_arraylength d1_48 rfl) ?_
  rw [hl]
  refine Ends.st (b := (51, _, _, [_, .inl (_, [_, _, _, _, _]), _, _, _], 3, 24)) (s_newarray (j := 4) (q := N) (cap := 8) (hw _ (List.mem_of_getElem? (i := 15) rfl)) d1_49 rfl (nneg_of (by omega)) (tnc_of (by omega)) hN (by decide) (by decide) (by decide) rfl) ?_
  refine Ends.st (b := (54, _, _, [_, .inl (_, [_, _, _, _, _]), _, _, _], 3, 24)) (s_putfield (cid := 0) (i := 2) (hw _ (List.mem_of_getElem? (i := 16) rfl)) (kok0 hw) rfl (Or.inr ⟨(hw _ (List.mem_of_getElem? (i := 17) rfl)), rfl, rfl⟩) (hw _ (List.mem_of_getElem? (i := 3) rfl)) (ty := (.array .long)) (by decide) rfl rfl d1_51 rfl rfl rfl) ?_
  refine Ends.st (b := (55, _, _, _, 3, 24)) (s_iconst (z := 0) d1_54 rfl) ?_
  refine Ends.st (b := (56, [_, _, _, _, _, _, _], _, _, 3, 24)) (s_istoreN d1_55 rfl) ?_
  refine Ends.st (b := (57, _, _, _, 3, 24)) (s_iconst (z := 0) d1_56 rfl) ?_
  refine Ends.st (b := (59, [_, _, _, _, _, _, _], _, _, 3, 24)) (s_istore d1_57 rfl) ?_
  refine Ends.st (b := (60, _, _, _, 3, 24)) (s_iconst (z := 0) d1_59 rfl) ?_
  refine Ends.st (b := (62, [_, _, _, _, _, _, _], _, _, 3, 24)) (s_istore d1_60 rfl) ?_
  exact hE
theorem mget {l : Launch} {Z : State} {a0 : Array Value} (hw : ∀ d ∈ tables_1, d.before a0 Z = true) {ρ : oM} {c0 : oC} {v3 v4 : Value} {ws ss ms wd : List Value} (w s off p : Nat) (m y : Int64) (hp : p < 1000) (ho : off + w < 1000) (h1 : ws[p]? = some (.int (Int32.ofNat w))) (h2 : ss[p]? = some (.int (Int32.ofNat s))) (h3 : ms[p]? = some (.long m)) (h4 : wd[off + w]? = some (.long y)) : Met l Z CK ρ (⟨"com/example/linearis/linearis/bundled/Layout", "get", "([JII)I"⟩ : MethodName) prog_32_method_6_code 4 (some .int) ({ frames := 0, cells := 0, slots := 0, locals := 0 } : Room) [] [.ref 1, .ref 5, .int (Int32.ofNat off), .int (Int32.ofNat p)] [c0, .inl (0, [.ref 2, .ref 3, .ref 4, v3, v4]), .inr (.int, ws), .inr (.int, ss), .inr (.long, ms), .inr (.long, wd)] (some (.int (jushrL y (Int32.ofNat s) &&& m).toInt32)) [c0, .inl (0, [.ref 2, .ref 3, .ref 4, v3, v4]), .inr (.int, ws), .inr (.int, ss), .inr (.long, ms), .inr (.long, wd)] := by
  refine Met.of (L0 := [.val (.ref 1), .val (.ref 5), .val (.int (Int32.ofNat off)), .val (.int (Int32.ofNat p))]) pn4 (oentry rfl) rfl ?_
  refine Ends.st (b := (1, _, _, _, 0, 0)) (s_aloadN d4_0 rfl rfl) ?_
  refine Ends.st (b := (2, _, _, _, 0, 0)) (s_iloadN d4_1 rfl) ?_
  refine Ends.st (b := (3, _, _, _, 0, 0)) (s_aloadN d4_2 rfl rfl) ?_
  refine Ends.st (b := (6, _, _, _, 0, 0)) (s_getfield (cid := 0) (i := 0) (hw _ (List.mem_of_getElem? (i := 11) rfl)) rfl d4_3 rfl rfl) ?_
  refine Ends.st (b := (7, _, _, _, 0, 0)) (s_iloadN d4_6 rfl) ?_
  refine Ends.st (b := (8, _, _, _, 0, 0)) (s_iaload d4_7 rfl (nneg_of (by omega)) (by rw [tnc_of (by omega)]; exact h1)) ?_
  refine Ends.st (b := (9, _, _, _, 0, 0)) (s_iadd d4_8) ?_
  rw [of_add]
  refine Ends.st (b := (10, _, _, _, 0, 0)) (s_laload d4_9 rfl (nneg_of (by omega)) (by rw [tnc_of (by omega)]; exact h4)) ?_
  refine Ends.st (b := (11, _, _, _, 0, 0)) (s_aloadN d4_10 rfl rfl) ?_
  refine Ends.st (b := (14, _, _, _, 0, 0)) (s_getfield (cid := 0) (i := 1) (hw _ (List.mem_of_getElem? (i := 13) rfl)) rfl d4_11 rfl rfl) ?_
  refine Ends.st (b := (15, _, _, _, 0, 0)) (s_iloadN d4_14 rfl) ?_
  refine Ends.st (b := (16, _, _, _, 0, 0)) (s_iaload d4_15 rfl (nneg_of (by omega)) (by rw [tnc_of (by omega)]; exact h2)) ?_
  refine Ends.st (b := (17, _, _, _, 0, 0)) (s_lushr d4_16) ?_
  refine Ends.st (b := (18, _, _, _, 0, 0)) (s_aloadN d4_17 rfl rfl) ?_
  refine Ends.st (b := (21, _, _, _, 0, 0)) (s_getfield (cid := 0) (i := 2) (hw _ (List.mem_of_getElem? (i := 16) rfl)) rfl d4_18 rfl rfl) ?_
  refine Ends.st (b := (22, _, _, _, 0, 0)) (s_iloadN d4_21 rfl) ?_
  refine Ends.st (b := (23, _, _, _, 0, 0)) (s_laload d4_22 rfl (nneg_of (by omega)) (by rw [tnc_of (by omega)]; exact h3)) ?_
  refine Ends.st (b := (24, _, _, _, 0, 0)) (s_land d4_23) ?_
  refine Ends.st (b := (25, _, _, _, 0, 0)) (s_l2i d4_24) ?_
  exact e_ireturn d4_25 rfl (by decide) (by decide)
def kf : Nat → Nat
  | 0 => 3
  | 1 => 0
  | 2 => 31
  | 3 => 31
  | 4 => 31
  | 5 => 2
  | 6 => 1
  | _ => 0
def xf : Nat → Int32
  | 0 => 5
  | 1 => 0
  | 2 => 2147483647
  | 3 => 2147483647
  | 4 => 2147483647
  | 5 => 3
  | 6 => 1
  | _ => 0
theorem kf_le : ∀ p, kf p ≤ 32
  | 0 => by decide
  | 1 => by decide
  | 2 => by decide
  | 3 => by decide
  | 4 => by decide
  | 5 => by decide
  | 6 => by decide
  | p + 7 => Nat.zero_le _
theorem xf_ok : ∀ p, p < 7 → ([.int 5, .int 0, .int 2147483647, .int 2147483647, .int 2147483647, .int 3, .int 1] : List Value)[p]? = some (.int (xf p)) ∧ ¬ xf p < 0 ∧ nlz (xf p) = Int32.ofNat (32 - kf p)
  | 0, _ => ⟨rfl, by decide, by decide +kernel⟩
  | 1, _ => ⟨rfl, by decide, by decide +kernel⟩
  | 2, _ => ⟨rfl, by decide, by decide +kernel⟩
  | 3, _ => ⟨rfl, by decide, by decide +kernel⟩
  | 4, _ => ⟨rfl, by decide, by decide +kernel⟩
  | 5, _ => ⟨rfl, by decide, by decide +kernel⟩
  | 6, _ => ⟨rfl, by decide, by decide +kernel⟩
  | p + 7, h => absurd h (by omega)
theorem ush0 (x : Int64) : jushrL x (Int32.ofNat 0) = x := u64_inj (by rw [u64_ushr]; exact Nat.div_one _)
def abc (a b d : Int64) : Nat → Int64
  | 0 => a
  | 1 => b
  | _ => d
def wdl (e : Int64) (off : Nat) (a b d : Int64) : List Value := ((([.long e, .long e, .long e, .long e, .long e] : List Value).set off (.long a)).set (off + 1) (.long b)).set (off + 2) (.long d)
theorem wd_ok (e : Int64) (a b d : Int64) : ∀ off, off ≤ 2 → ∀ w, w ≤ 2 → (wdl e off a b d)[off + w]? = some (.long (abc a b d w))
  | 0, _, 0, _ => rfl
  | 0, _, 1, _ => rfl
  | 0, _, 2, _ => rfl
  | 1, _, 0, _ => rfl
  | 1, _, 1, _ => rfl
  | 1, _, 2, _ => rfl
  | 2, _, 0, _ => rfl
  | 2, _, 1, _ => rfl
  | 2, _, 2, _ => rfl
  | 0, _, w + 3, h => absurd h (by omega)
  | 1, _, w + 3, h => absurd h (by omega)
  | 2, _, w + 3, h => absurd h (by omega)
  | off + 3, h, _, _ => absurd h (by omega)
theorem mex00 {l : Launch} {Z : State} {a0 : Array Value} (hw : ∀ d ∈ tables_1, d.before a0 Z = true) {ρ : oM} {A : oH} (a b d : Int64) : Met l Z CK ρ (⟨"com/example/linearis/linearis/bundled/LayoutGetPinLaw", "expected", "(JJJIZ)I"⟩ : MethodName) method_3_code 8 (some .int) ({ frames := 0, cells := 0, slots := 0, locals := 0 } : Room) [] [.long a, .long b, .long d, .int 0, .int 0] A (some (.int ((a &&& 7).toInt32))) A := by
  refine Met.of (L0 := [.val (.long a), .second, .val (.long b), .second, .val (.long d), .second, .val (.int 0), .val (.int 0)]) pn5 (oentry rfl) rfl ?_
  refine Ends.st (b := (2, _, _, _, 0, 0)) (s_iload d5_0 rfl) ?_
  refine Ends.st (b := (5, _, _, _, 0, 0)) (s_if_ne_f d5_2 (by decide)) ?_
  refine Ends.st (b := (6, _, _, _, 0, 0)) (s_lloadN d5_5 rfl) ?_
  refine Ends.st (b := (9, _, _, _, 0, 0)) (s_ldc2 (hw _ (List.mem_of_getElem? (i := 38) rfl)) d5_6) ?_
  refine Ends.st (b := (10, _, _, _, 0, 0)) (s_land d5_9) ?_
  refine Ends.st (b := (11, _, _, _, 0, 0)) (s_l2i d5_10) ?_
  exact e_ireturn d5_11 rfl (by decide) (by decide)
theorem mex10 {l : Launch} {Z : State} {a0 : Array Value} (hw : ∀ d ∈ tables_1, d.before a0 Z = true) {ρ : oM} {A : oH} (a b d : Int64) : Met l Z CK ρ (⟨"com/example/linearis/linearis/bundled/LayoutGetPinLaw", "expected", "(JJJIZ)I"⟩ : MethodName) method_3_code 8 (some .int) ({ frames := 0, cells := 0, slots := 0, locals := 0 } : Room) [] [.long a, .long b, .long d, .int 1, .int 0] A (some (.int 0)) A := by
  refine Met.of (L0 := [.val (.long a), .second, .val (.long b), .second, .val (.long d), .second, .val (.int 1), .val (.int 0)]) pn5 (oentry rfl) rfl ?_
  refine Ends.st (b := (2, _, _, _, 0, 0)) (s_iload d5_0 rfl) ?_
  refine Ends.st (b := (12, _, _, _, 0, 0)) (s_if_ne_t d5_2 (by decide) (by decide) (by decide)) ?_
  refine Ends.st (b := (14, _, _, _, 0, 0)) (s_iload d5_12 rfl) ?_
  refine Ends.st (b := (15, _, _, _, 0, 0)) (s_iconst (z := 1) d5_14 rfl) ?_
  refine Ends.st (b := (18, _, _, _, 0, 0)) (s_icmp_ne_f d5_15 (by decide)) ?_
  refine Ends.st (b := (19, _, _, _, 0, 0)) (s_iconst (z := 0) d5_18 rfl) ?_
  exact e_ireturn d5_19 rfl (by decide) (by decide)
theorem mex20 {l : Launch} {Z : State} {a0 : Array Value} (hw : ∀ d ∈ tables_1, d.before a0 Z = true) {ρ : oM} {A : oH} (a b d : Int64) : Met l Z CK ρ (⟨"com/example/linearis/linearis/bundled/LayoutGetPinLaw", "expected", "(JJJIZ)I"⟩ : MethodName) method_3_code 8 (some .int) ({ frames := 0, cells := 0, slots := 0, locals := 0 } : Room) [] [.long a, .long b, .long d, .int 2, .int 0] A (some (.int ((jushrL a 3 &&& 2147483647).toInt32))) A := by
  refine Met.of (L0 := [.val (.long a), .second, .val (.long b), .second, .val (.long d), .second, .val (.int 2), .val (.int 0)]) pn5 (oentry rfl) rfl ?_
  refine Ends.st (b := (2, _, _, _, 0, 0)) (s_iload d5_0 rfl) ?_
  refine Ends.st (b := (12, _, _, _, 0, 0)) (s_if_ne_t d5_2 (by decide) (by decide) (by decide)) ?_
  refine Ends.st (b := (14, _, _, _, 0, 0)) (s_iload d5_12 rfl) ?_
  refine Ends.st (b := (15, _, _, _, 0, 0)) (s_iconst (z := 1) d5_14 rfl) ?_
  refine Ends.st (b := (20, _, _, _, 0, 0)) (s_icmp_ne_t d5_15 (by decide) (by decide) (by decide)) ?_
  refine Ends.st (b := (22, _, _, _, 0, 0)) (s_iload d5_20 rfl) ?_
  refine Ends.st (b := (23, _, _, _, 0, 0)) (s_iconst (z := 2) d5_22 rfl) ?_
  refine Ends.st (b := (26, _, _, _, 0, 0)) (s_icmp_ne_f d5_23 (by decide)) ?_
  refine Ends.st (b := (27, _, _, _, 0, 0)) (s_lloadN d5_26 rfl) ?_
  refine Ends.st (b := (28, _, _, _, 0, 0)) (s_iconst (z := 3) d5_27 rfl) ?_
  refine Ends.st (b := (29, _, _, _, 0, 0)) (s_lushr d5_28) ?_
  refine Ends.st (b := (32, _, _, _, 0, 0)) (s_ldc2 (hw _ (List.mem_of_getElem? (i := 36) rfl)) d5_29) ?_
  refine Ends.st (b := (33, _, _, _, 0, 0)) (s_land d5_32) ?_
  refine Ends.st (b := (34, _, _, _, 0, 0)) (s_l2i d5_33) ?_
  exact e_ireturn d5_34 rfl (by decide) (by decide)
theorem mex30 {l : Launch} {Z : State} {a0 : Array Value} (hw : ∀ d ∈ tables_1, d.before a0 Z = true) {ρ : oM} {A : oH} (a b d : Int64) : Met l Z CK ρ (⟨"com/example/linearis/linearis/bundled/LayoutGetPinLaw", "expected", "(JJJIZ)I"⟩ : MethodName) method_3_code 8 (some .int) ({ frames := 0, cells := 0, slots := 0, locals := 0 } : Room) [] [.long a, .long b, .long d, .int 3, .int 0] A (some (.int ((b &&& 2147483647).toInt32))) A := by
  refine Met.of (L0 := [.val (.long a), .second, .val (.long b), .second, .val (.long d), .second, .val (.int 3), .val (.int 0)]) pn5 (oentry rfl) rfl ?_
  refine Ends.st (b := (2, _, _, _, 0, 0)) (s_iload d5_0 rfl) ?_
  refine Ends.st (b := (12, _, _, _, 0, 0)) (s_if_ne_t d5_2 (by decide) (by decide) (by decide)) ?_
  refine Ends.st (b := (14, _, _, _, 0, 0)) (s_iload d5_12 rfl) ?_
  refine Ends.st (b := (15, _, _, _, 0, 0)) (s_iconst (z := 1) d5_14 rfl) ?_
  refine Ends.st (b := (20, _, _, _, 0, 0)) (s_icmp_ne_t d5_15 (by decide) (by decide) (by decide)) ?_
  refine Ends.st (b := (22, _, _, _, 0, 0)) (s_iload d5_20 rfl) ?_
  refine Ends.st (b := (23, _, _, _, 0, 0)) (s_iconst (z := 2) d5_22 rfl) ?_
  refine Ends.st (b := (35, _, _, _, 0, 0)) (s_icmp_ne_t d5_23 (by decide) (by decide) (by decide)) ?_
  refine Ends.st (b := (37, _, _, _, 0, 0)) (s_iload d5_35 rfl) ?_
  refine Ends.st (b := (38, _, _, _, 0, 0)) (s_iconst (z := 3) d5_37 rfl) ?_
  refine Ends.st (b := (41, _, _, _, 0, 0)) (s_icmp_ne_f d5_38 (by decide)) ?_
  refine Ends.st (b := (42, _, _, _, 0, 0)) (s_lloadN d5_41 rfl) ?_
  refine Ends.st (b := (45, _, _, _, 0, 0)) (s_ldc2 (hw _ (List.mem_of_getElem? (i := 36) rfl)) d5_42) ?_
  refine Ends.st (b := (46, _, _, _, 0, 0)) (s_land d5_45) ?_
  refine Ends.st (b := (47, _, _, _, 0, 0)) (s_l2i d5_46) ?_
  exact e_ireturn d5_47 rfl (by decide) (by decide)
theorem mex40 {l : Launch} {Z : State} {a0 : Array Value} (hw : ∀ d ∈ tables_1, d.before a0 Z = true) {ρ : oM} {A : oH} (a b d : Int64) : Met l Z CK ρ (⟨"com/example/linearis/linearis/bundled/LayoutGetPinLaw", "expected", "(JJJIZ)I"⟩ : MethodName) method_3_code 8 (some .int) ({ frames := 0, cells := 0, slots := 0, locals := 0 } : Room) [] [.long a, .long b, .long d, .int 4, .int 0] A (some (.int ((jushrL b 31 &&& 2147483647).toInt32))) A := by
  refine Met.of (L0 := [.val (.long a), .second, .val (.long b), .second, .val (.long d), .second, .val (.int 4), .val (.int 0)]) pn5 (oentry rfl) rfl ?_
  refine Ends.st (b := (2, _, _, _, 0, 0)) (s_iload d5_0 rfl) ?_
  refine Ends.st (b := (12, _, _, _, 0, 0)) (s_if_ne_t d5_2 (by decide) (by decide) (by decide)) ?_
  refine Ends.st (b := (14, _, _, _, 0, 0)) (s_iload d5_12 rfl) ?_
  refine Ends.st (b := (15, _, _, _, 0, 0)) (s_iconst (z := 1) d5_14 rfl) ?_
  refine Ends.st (b := (20, _, _, _, 0, 0)) (s_icmp_ne_t d5_15 (by decide) (by decide) (by decide)) ?_
  refine Ends.st (b := (22, _, _, _, 0, 0)) (s_iload d5_20 rfl) ?_
  refine Ends.st (b := (23, _, _, _, 0, 0)) (s_iconst (z := 2) d5_22 rfl) ?_
  refine Ends.st (b := (35, _, _, _, 0, 0)) (s_icmp_ne_t d5_23 (by decide) (by decide) (by decide)) ?_
  refine Ends.st (b := (37, _, _, _, 0, 0)) (s_iload d5_35 rfl) ?_
  refine Ends.st (b := (38, _, _, _, 0, 0)) (s_iconst (z := 3) d5_37 rfl) ?_
  refine Ends.st (b := (48, _, _, _, 0, 0)) (s_icmp_ne_t d5_38 (by decide) (by decide) (by decide)) ?_
  refine Ends.st (b := (50, _, _, _, 0, 0)) (s_iload d5_48 rfl) ?_
  refine Ends.st (b := (51, _, _, _, 0, 0)) (s_iconst (z := 4) d5_50 rfl) ?_
  refine Ends.st (b := (54, _, _, _, 0, 0)) (s_icmp_ne_f d5_51 (by decide)) ?_
  refine Ends.st (b := (55, _, _, _, 0, 0)) (s_lloadN d5_54 rfl) ?_
  refine Ends.st (b := (57, _, _, _, 0, 0)) (s_bipush (z := 31) d5_55 (by decide)) ?_
  refine Ends.st (b := (58, _, _, _, 0, 0)) (s_lushr d5_57) ?_
  refine Ends.st (b := (61, _, _, _, 0, 0)) (s_ldc2 (hw _ (List.mem_of_getElem? (i := 36) rfl)) d5_58) ?_
  refine Ends.st (b := (62, _, _, _, 0, 0)) (s_land d5_61) ?_
  refine Ends.st (b := (63, _, _, _, 0, 0)) (s_l2i d5_62) ?_
  exact e_ireturn d5_63 rfl (by decide) (by decide)
theorem mex50 {l : Launch} {Z : State} {a0 : Array Value} (hw : ∀ d ∈ tables_1, d.before a0 Z = true) {ρ : oM} {A : oH} (a b d : Int64) : Met l Z CK ρ (⟨"com/example/linearis/linearis/bundled/LayoutGetPinLaw", "expected", "(JJJIZ)I"⟩ : MethodName) method_3_code 8 (some .int) ({ frames := 0, cells := 0, slots := 0, locals := 0 } : Room) [] [.long a, .long b, .long d, .int 5, .int 0] A (some (.int ((jushrL b 62 &&& 3).toInt32))) A := by
  refine Met.of (L0 := [.val (.long a), .second, .val (.long b), .second, .val (.long d), .second, .val (.int 5), .val (.int 0)]) pn5 (oentry rfl) rfl ?_
  refine Ends.st (b := (2, _, _, _, 0, 0)) (s_iload d5_0 rfl) ?_
  refine Ends.st (b := (12, _, _, _, 0, 0)) (s_if_ne_t d5_2 (by decide) (by decide) (by decide)) ?_
  refine Ends.st (b := (14, _, _, _, 0, 0)) (s_iload d5_12 rfl) ?_
  refine Ends.st (b := (15, _, _, _, 0, 0)) (s_iconst (z := 1) d5_14 rfl) ?_
  refine Ends.st (b := (20, _, _, _, 0, 0)) (s_icmp_ne_t d5_15 (by decide) (by decide) (by decide)) ?_
  refine Ends.st (b := (22, _, _, _, 0, 0)) (s_iload d5_20 rfl) ?_
  refine Ends.st (b := (23, _, _, _, 0, 0)) (s_iconst (z := 2) d5_22 rfl) ?_
  refine Ends.st (b := (35, _, _, _, 0, 0)) (s_icmp_ne_t d5_23 (by decide) (by decide) (by decide)) ?_
  refine Ends.st (b := (37, _, _, _, 0, 0)) (s_iload d5_35 rfl) ?_
  refine Ends.st (b := (38, _, _, _, 0, 0)) (s_iconst (z := 3) d5_37 rfl) ?_
  refine Ends.st (b := (48, _, _, _, 0, 0)) (s_icmp_ne_t d5_38 (by decide) (by decide) (by decide)) ?_
  refine Ends.st (b := (50, _, _, _, 0, 0)) (s_iload d5_48 rfl) ?_
  refine Ends.st (b := (51, _, _, _, 0, 0)) (s_iconst (z := 4) d5_50 rfl) ?_
  refine Ends.st (b := (64, _, _, _, 0, 0)) (s_icmp_ne_t d5_51 (by decide) (by decide) (by decide)) ?_
  refine Ends.st (b := (66, _, _, _, 0, 0)) (s_iload d5_64 rfl) ?_
  refine Ends.st (b := (67, _, _, _, 0, 0)) (s_iconst (z := 5) d5_66 rfl) ?_
  refine Ends.st (b := (70, _, _, _, 0, 0)) (s_icmp_ne_f d5_67 (by decide)) ?_
  refine Ends.st (b := (72, _, _, _, 0, 0)) (s_iload d5_70 rfl) ?_
  refine Ends.st (b := (83, _, _, _, 0, 0)) (s_if_eq_t d5_72 (by decide) (by decide) (by decide)) ?_
  refine Ends.st (b := (84, _, _, _, 0, 0)) (s_lloadN d5_83 rfl) ?_
  refine Ends.st (b := (86, _, _, _, 0, 0)) (s_bipush (z := 62) d5_84 (by decide)) ?_
  refine Ends.st (b := (87, _, _, _, 0, 0)) (s_lushr d5_86) ?_
  refine Ends.st (b := (90, _, _, _, 0, 0)) (s_ldc2 (hw _ (List.mem_of_getElem? (i := 37) rfl)) d5_87) ?_
  refine Ends.st (b := (91, _, _, _, 0, 0)) (s_land d5_90) ?_
  refine Ends.st (b := (92, _, _, _, 0, 0)) (s_l2i d5_91) ?_
  exact e_ireturn d5_92 rfl (by decide) (by decide)
theorem mex60 {l : Launch} {Z : State} {a0 : Array Value} (hw : ∀ d ∈ tables_1, d.before a0 Z = true) {ρ : oM} {A : oH} (a b d : Int64) : Met l Z CK ρ (⟨"com/example/linearis/linearis/bundled/LayoutGetPinLaw", "expected", "(JJJIZ)I"⟩ : MethodName) method_3_code 8 (some .int) ({ frames := 0, cells := 0, slots := 0, locals := 0 } : Room) [] [.long a, .long b, .long d, .int 6, .int 0] A (some (.int ((d &&& 1).toInt32))) A := by
  refine Met.of (L0 := [.val (.long a), .second, .val (.long b), .second, .val (.long d), .second, .val (.int 6), .val (.int 0)]) pn5 (oentry rfl) rfl ?_
  refine Ends.st (b := (2, _, _, _, 0, 0)) (s_iload d5_0 rfl) ?_
  refine Ends.st (b := (12, _, _, _, 0, 0)) (s_if_ne_t d5_2 (by decide) (by decide) (by decide)) ?_
  refine Ends.st (b := (14, _, _, _, 0, 0)) (s_iload d5_12 rfl) ?_
  refine Ends.st (b := (15, _, _, _, 0, 0)) (s_iconst (z := 1) d5_14 rfl) ?_
  refine Ends.st (b := (20, _, _, _, 0, 0)) (s_icmp_ne_t d5_15 (by decide) (by decide) (by decide)) ?_
  refine Ends.st (b := (22, _, _, _, 0, 0)) (s_iload d5_20 rfl) ?_
  refine Ends.st (b := (23, _, _, _, 0, 0)) (s_iconst (z := 2) d5_22 rfl) ?_
  refine Ends.st (b := (35, _, _, _, 0, 0)) (s_icmp_ne_t d5_23 (by decide) (by decide) (by decide)) ?_
  refine Ends.st (b := (37, _, _, _, 0, 0)) (s_iload d5_35 rfl) ?_
  refine Ends.st (b := (38, _, _, _, 0, 0)) (s_iconst (z := 3) d5_37 rfl) ?_
  refine Ends.st (b := (48, _, _, _, 0, 0)) (s_icmp_ne_t d5_38 (by decide) (by decide) (by decide)) ?_
  refine Ends.st (b := (50, _, _, _, 0, 0)) (s_iload d5_48 rfl) ?_
  refine Ends.st (b := (51, _, _, _, 0, 0)) (s_iconst (z := 4) d5_50 rfl) ?_
  refine Ends.st (b := (64, _, _, _, 0, 0)) (s_icmp_ne_t d5_51 (by decide) (by decide) (by decide)) ?_
  refine Ends.st (b := (66, _, _, _, 0, 0)) (s_iload d5_64 rfl) ?_
  refine Ends.st (b := (67, _, _, _, 0, 0)) (s_iconst (z := 5) d5_66 rfl) ?_
  refine Ends.st (b := (93, _, _, _, 0, 0)) (s_icmp_ne_t d5_67 (by decide) (by decide) (by decide)) ?_
  refine Ends.st (b := (95, _, _, _, 0, 0)) (s_iload d5_93 rfl) ?_
  refine Ends.st (b := (106, _, _, _, 0, 0)) (s_if_eq_t d5_95 (by decide) (by decide) (by decide)) ?_
  refine Ends.st (b := (108, _, _, _, 0, 0)) (s_lload d5_106 rfl) ?_
  refine Ends.st (b := (109, _, _, _, 0, 0)) (s_lconst (z := 1) d5_108 rfl) ?_
  refine Ends.st (b := (110, _, _, _, 0, 0)) (s_land d5_109) ?_
  refine Ends.st (b := (111, _, _, _, 0, 0)) (s_l2i d5_110) ?_
  exact e_ireturn d5_111 rfl (by decide) (by decide)
theorem mex01 {l : Launch} {Z : State} {a0 : Array Value} (hw : ∀ d ∈ tables_1, d.before a0 Z = true) {ρ : oM} {A : oH} (a b d : Int64) : Met l Z CK ρ (⟨"com/example/linearis/linearis/bundled/LayoutGetPinLaw", "expected", "(JJJIZ)I"⟩ : MethodName) method_3_code 8 (some .int) ({ frames := 0, cells := 0, slots := 0, locals := 0 } : Room) [] [.long a, .long b, .long d, .int 0, .int 1] A (some (.int ((a &&& 7).toInt32))) A := by
  refine Met.of (L0 := [.val (.long a), .second, .val (.long b), .second, .val (.long d), .second, .val (.int 0), .val (.int 1)]) pn5 (oentry rfl) rfl ?_
  refine Ends.st (b := (2, _, _, _, 0, 0)) (s_iload d5_0 rfl) ?_
  refine Ends.st (b := (5, _, _, _, 0, 0)) (s_if_ne_f d5_2 (by decide)) ?_
  refine Ends.st (b := (6, _, _, _, 0, 0)) (s_lloadN d5_5 rfl) ?_
  refine Ends.st (b := (9, _, _, _, 0, 0)) (s_ldc2 (hw _ (List.mem_of_getElem? (i := 38) rfl)) d5_6) ?_
  refine Ends.st (b := (10, _, _, _, 0, 0)) (s_land d5_9) ?_
  refine Ends.st (b := (11, _, _, _, 0, 0)) (s_l2i d5_10) ?_
  exact e_ireturn d5_11 rfl (by decide) (by decide)
theorem mex11 {l : Launch} {Z : State} {a0 : Array Value} (hw : ∀ d ∈ tables_1, d.before a0 Z = true) {ρ : oM} {A : oH} (a b d : Int64) : Met l Z CK ρ (⟨"com/example/linearis/linearis/bundled/LayoutGetPinLaw", "expected", "(JJJIZ)I"⟩ : MethodName) method_3_code 8 (some .int) ({ frames := 0, cells := 0, slots := 0, locals := 0 } : Room) [] [.long a, .long b, .long d, .int 1, .int 1] A (some (.int 0)) A := by
  refine Met.of (L0 := [.val (.long a), .second, .val (.long b), .second, .val (.long d), .second, .val (.int 1), .val (.int 1)]) pn5 (oentry rfl) rfl ?_
  refine Ends.st (b := (2, _, _, _, 0, 0)) (s_iload d5_0 rfl) ?_
  refine Ends.st (b := (12, _, _, _, 0, 0)) (s_if_ne_t d5_2 (by decide) (by decide) (by decide)) ?_
  refine Ends.st (b := (14, _, _, _, 0, 0)) (s_iload d5_12 rfl) ?_
  refine Ends.st (b := (15, _, _, _, 0, 0)) (s_iconst (z := 1) d5_14 rfl) ?_
  refine Ends.st (b := (18, _, _, _, 0, 0)) (s_icmp_ne_f d5_15 (by decide)) ?_
  refine Ends.st (b := (19, _, _, _, 0, 0)) (s_iconst (z := 0) d5_18 rfl) ?_
  exact e_ireturn d5_19 rfl (by decide) (by decide)
theorem mex21 {l : Launch} {Z : State} {a0 : Array Value} (hw : ∀ d ∈ tables_1, d.before a0 Z = true) {ρ : oM} {A : oH} (a b d : Int64) : Met l Z CK ρ (⟨"com/example/linearis/linearis/bundled/LayoutGetPinLaw", "expected", "(JJJIZ)I"⟩ : MethodName) method_3_code 8 (some .int) ({ frames := 0, cells := 0, slots := 0, locals := 0 } : Room) [] [.long a, .long b, .long d, .int 2, .int 1] A (some (.int ((jushrL a 3 &&& 2147483647).toInt32))) A := by
  refine Met.of (L0 := [.val (.long a), .second, .val (.long b), .second, .val (.long d), .second, .val (.int 2), .val (.int 1)]) pn5 (oentry rfl) rfl ?_
  refine Ends.st (b := (2, _, _, _, 0, 0)) (s_iload d5_0 rfl) ?_
  refine Ends.st (b := (12, _, _, _, 0, 0)) (s_if_ne_t d5_2 (by decide) (by decide) (by decide)) ?_
  refine Ends.st (b := (14, _, _, _, 0, 0)) (s_iload d5_12 rfl) ?_
  refine Ends.st (b := (15, _, _, _, 0, 0)) (s_iconst (z := 1) d5_14 rfl) ?_
  refine Ends.st (b := (20, _, _, _, 0, 0)) (s_icmp_ne_t d5_15 (by decide) (by decide) (by decide)) ?_
  refine Ends.st (b := (22, _, _, _, 0, 0)) (s_iload d5_20 rfl) ?_
  refine Ends.st (b := (23, _, _, _, 0, 0)) (s_iconst (z := 2) d5_22 rfl) ?_
  refine Ends.st (b := (26, _, _, _, 0, 0)) (s_icmp_ne_f d5_23 (by decide)) ?_
  refine Ends.st (b := (27, _, _, _, 0, 0)) (s_lloadN d5_26 rfl) ?_
  refine Ends.st (b := (28, _, _, _, 0, 0)) (s_iconst (z := 3) d5_27 rfl) ?_
  refine Ends.st (b := (29, _, _, _, 0, 0)) (s_lushr d5_28) ?_
  refine Ends.st (b := (32, _, _, _, 0, 0)) (s_ldc2 (hw _ (List.mem_of_getElem? (i := 36) rfl)) d5_29) ?_
  refine Ends.st (b := (33, _, _, _, 0, 0)) (s_land d5_32) ?_
  refine Ends.st (b := (34, _, _, _, 0, 0)) (s_l2i d5_33) ?_
  exact e_ireturn d5_34 rfl (by decide) (by decide)
theorem mex31 {l : Launch} {Z : State} {a0 : Array Value} (hw : ∀ d ∈ tables_1, d.before a0 Z = true) {ρ : oM} {A : oH} (a b d : Int64) : Met l Z CK ρ (⟨"com/example/linearis/linearis/bundled/LayoutGetPinLaw", "expected", "(JJJIZ)I"⟩ : MethodName) method_3_code 8 (some .int) ({ frames := 0, cells := 0, slots := 0, locals := 0 } : Room) [] [.long a, .long b, .long d, .int 3, .int 1] A (some (.int ((b &&& 2147483647).toInt32))) A := by
  refine Met.of (L0 := [.val (.long a), .second, .val (.long b), .second, .val (.long d), .second, .val (.int 3), .val (.int 1)]) pn5 (oentry rfl) rfl ?_
  refine Ends.st (b := (2, _, _, _, 0, 0)) (s_iload d5_0 rfl) ?_
  refine Ends.st (b := (12, _, _, _, 0, 0)) (s_if_ne_t d5_2 (by decide) (by decide) (by decide)) ?_
  refine Ends.st (b := (14, _, _, _, 0, 0)) (s_iload d5_12 rfl) ?_
  refine Ends.st (b := (15, _, _, _, 0, 0)) (s_iconst (z := 1) d5_14 rfl) ?_
  refine Ends.st (b := (20, _, _, _, 0, 0)) (s_icmp_ne_t d5_15 (by decide) (by decide) (by decide)) ?_
  refine Ends.st (b := (22, _, _, _, 0, 0)) (s_iload d5_20 rfl) ?_
  refine Ends.st (b := (23, _, _, _, 0, 0)) (s_iconst (z := 2) d5_22 rfl) ?_
  refine Ends.st (b := (35, _, _, _, 0, 0)) (s_icmp_ne_t d5_23 (by decide) (by decide) (by decide)) ?_
  refine Ends.st (b := (37, _, _, _, 0, 0)) (s_iload d5_35 rfl) ?_
  refine Ends.st (b := (38, _, _, _, 0, 0)) (s_iconst (z := 3) d5_37 rfl) ?_
  refine Ends.st (b := (41, _, _, _, 0, 0)) (s_icmp_ne_f d5_38 (by decide)) ?_
  refine Ends.st (b := (42, _, _, _, 0, 0)) (s_lloadN d5_41 rfl) ?_
  refine Ends.st (b := (45, _, _, _, 0, 0)) (s_ldc2 (hw _ (List.mem_of_getElem? (i := 36) rfl)) d5_42) ?_
  refine Ends.st (b := (46, _, _, _, 0, 0)) (s_land d5_45) ?_
  refine Ends.st (b := (47, _, _, _, 0, 0)) (s_l2i d5_46) ?_
  exact e_ireturn d5_47 rfl (by decide) (by decide)
theorem mex41 {l : Launch} {Z : State} {a0 : Array Value} (hw : ∀ d ∈ tables_1, d.before a0 Z = true) {ρ : oM} {A : oH} (a b d : Int64) : Met l Z CK ρ (⟨"com/example/linearis/linearis/bundled/LayoutGetPinLaw", "expected", "(JJJIZ)I"⟩ : MethodName) method_3_code 8 (some .int) ({ frames := 0, cells := 0, slots := 0, locals := 0 } : Room) [] [.long a, .long b, .long d, .int 4, .int 1] A (some (.int ((jushrL b 31 &&& 2147483647).toInt32))) A := by
  refine Met.of (L0 := [.val (.long a), .second, .val (.long b), .second, .val (.long d), .second, .val (.int 4), .val (.int 1)]) pn5 (oentry rfl) rfl ?_
  refine Ends.st (b := (2, _, _, _, 0, 0)) (s_iload d5_0 rfl) ?_
  refine Ends.st (b := (12, _, _, _, 0, 0)) (s_if_ne_t d5_2 (by decide) (by decide) (by decide)) ?_
  refine Ends.st (b := (14, _, _, _, 0, 0)) (s_iload d5_12 rfl) ?_
  refine Ends.st (b := (15, _, _, _, 0, 0)) (s_iconst (z := 1) d5_14 rfl) ?_
  refine Ends.st (b := (20, _, _, _, 0, 0)) (s_icmp_ne_t d5_15 (by decide) (by decide) (by decide)) ?_
  refine Ends.st (b := (22, _, _, _, 0, 0)) (s_iload d5_20 rfl) ?_
  refine Ends.st (b := (23, _, _, _, 0, 0)) (s_iconst (z := 2) d5_22 rfl) ?_
  refine Ends.st (b := (35, _, _, _, 0, 0)) (s_icmp_ne_t d5_23 (by decide) (by decide) (by decide)) ?_
  refine Ends.st (b := (37, _, _, _, 0, 0)) (s_iload d5_35 rfl) ?_
  refine Ends.st (b := (38, _, _, _, 0, 0)) (s_iconst (z := 3) d5_37 rfl) ?_
  refine Ends.st (b := (48, _, _, _, 0, 0)) (s_icmp_ne_t d5_38 (by decide) (by decide) (by decide)) ?_
  refine Ends.st (b := (50, _, _, _, 0, 0)) (s_iload d5_48 rfl) ?_
  refine Ends.st (b := (51, _, _, _, 0, 0)) (s_iconst (z := 4) d5_50 rfl) ?_
  refine Ends.st (b := (54, _, _, _, 0, 0)) (s_icmp_ne_f d5_51 (by decide)) ?_
  refine Ends.st (b := (55, _, _, _, 0, 0)) (s_lloadN d5_54 rfl) ?_
  refine Ends.st (b := (57, _, _, _, 0, 0)) (s_bipush (z := 31) d5_55 (by decide)) ?_
  refine Ends.st (b := (58, _, _, _, 0, 0)) (s_lushr d5_57) ?_
  refine Ends.st (b := (61, _, _, _, 0, 0)) (s_ldc2 (hw _ (List.mem_of_getElem? (i := 36) rfl)) d5_58) ?_
  refine Ends.st (b := (62, _, _, _, 0, 0)) (s_land d5_61) ?_
  refine Ends.st (b := (63, _, _, _, 0, 0)) (s_l2i d5_62) ?_
  exact e_ireturn d5_63 rfl (by decide) (by decide)
theorem mex51 {l : Launch} {Z : State} {a0 : Array Value} (hw : ∀ d ∈ tables_1, d.before a0 Z = true) {ρ : oM} {A : oH} (a b d : Int64) : Met l Z CK ρ (⟨"com/example/linearis/linearis/bundled/LayoutGetPinLaw", "expected", "(JJJIZ)I"⟩ : MethodName) method_3_code 8 (some .int) ({ frames := 0, cells := 0, slots := 0, locals := 0 } : Room) [] [.long a, .long b, .long d, .int 5, .int 1] A (some (.int ((d &&& 3).toInt32))) A := by
  refine Met.of (L0 := [.val (.long a), .second, .val (.long b), .second, .val (.long d), .second, .val (.int 5), .val (.int 1)]) pn5 (oentry rfl) rfl ?_
  refine Ends.st (b := (2, _, _, _, 0, 0)) (s_iload d5_0 rfl) ?_
  refine Ends.st (b := (12, _, _, _, 0, 0)) (s_if_ne_t d5_2 (by decide) (by decide) (by decide)) ?_
  refine Ends.st (b := (14, _, _, _, 0, 0)) (s_iload d5_12 rfl) ?_
  refine Ends.st (b := (15, _, _, _, 0, 0)) (s_iconst (z := 1) d5_14 rfl) ?_
  refine Ends.st (b := (20, _, _, _, 0, 0)) (s_icmp_ne_t d5_15 (by decide) (by decide) (by decide)) ?_
  refine Ends.st (b := (22, _, _, _, 0, 0)) (s_iload d5_20 rfl) ?_
  refine Ends.st (b := (23, _, _, _, 0, 0)) (s_iconst (z := 2) d5_22 rfl) ?_
  refine Ends.st (b := (35, _, _, _, 0, 0)) (s_icmp_ne_t d5_23 (by decide) (by decide) (by decide)) ?_
  refine Ends.st (b := (37, _, _, _, 0, 0)) (s_iload d5_35 rfl) ?_
  refine Ends.st (b := (38, _, _, _, 0, 0)) (s_iconst (z := 3) d5_37 rfl) ?_
  refine Ends.st (b := (48, _, _, _, 0, 0)) (s_icmp_ne_t d5_38 (by decide) (by decide) (by decide)) ?_
  refine Ends.st (b := (50, _, _, _, 0, 0)) (s_iload d5_48 rfl) ?_
  refine Ends.st (b := (51, _, _, _, 0, 0)) (s_iconst (z := 4) d5_50 rfl) ?_
  refine Ends.st (b := (64, _, _, _, 0, 0)) (s_icmp_ne_t d5_51 (by decide) (by decide) (by decide)) ?_
  refine Ends.st (b := (66, _, _, _, 0, 0)) (s_iload d5_64 rfl) ?_
  refine Ends.st (b := (67, _, _, _, 0, 0)) (s_iconst (z := 5) d5_66 rfl) ?_
  refine Ends.st (b := (70, _, _, _, 0, 0)) (s_icmp_ne_f d5_67 (by decide)) ?_
  refine Ends.st (b := (72, _, _, _, 0, 0)) (s_iload d5_70 rfl) ?_
  refine Ends.st (b := (75, _, _, _, 0, 0)) (s_if_eq_f d5_72 (by decide)) ?_
  refine Ends.st (b := (77, _, _, _, 0, 0)) (s_lload d5_75 rfl) ?_
  refine Ends.st (b := (80, _, _, _, 0, 0)) (s_ldc2 (hw _ (List.mem_of_getElem? (i := 37) rfl)) d5_77) ?_
  refine Ends.st (b := (81, _, _, _, 0, 0)) (s_land d5_80) ?_
  refine Ends.st (b := (82, _, _, _, 0, 0)) (s_l2i d5_81) ?_
  exact e_ireturn d5_82 rfl (by decide) (by decide)
theorem mex61 {l : Launch} {Z : State} {a0 : Array Value} (hw : ∀ d ∈ tables_1, d.before a0 Z = true) {ρ : oM} {A : oH} (a b d : Int64) : Met l Z CK ρ (⟨"com/example/linearis/linearis/bundled/LayoutGetPinLaw", "expected", "(JJJIZ)I"⟩ : MethodName) method_3_code 8 (some .int) ({ frames := 0, cells := 0, slots := 0, locals := 0 } : Room) [] [.long a, .long b, .long d, .int 6, .int 1] A (some (.int ((jushrL d 2 &&& 1).toInt32))) A := by
  refine Met.of (L0 := [.val (.long a), .second, .val (.long b), .second, .val (.long d), .second, .val (.int 6), .val (.int 1)]) pn5 (oentry rfl) rfl ?_
  refine Ends.st (b := (2, _, _, _, 0, 0)) (s_iload d5_0 rfl) ?_
  refine Ends.st (b := (12, _, _, _, 0, 0)) (s_if_ne_t d5_2 (by decide) (by decide) (by decide)) ?_
  refine Ends.st (b := (14, _, _, _, 0, 0)) (s_iload d5_12 rfl) ?_
  refine Ends.st (b := (15, _, _, _, 0, 0)) (s_iconst (z := 1) d5_14 rfl) ?_
  refine Ends.st (b := (20, _, _, _, 0, 0)) (s_icmp_ne_t d5_15 (by decide) (by decide) (by decide)) ?_
  refine Ends.st (b := (22, _, _, _, 0, 0)) (s_iload d5_20 rfl) ?_
  refine Ends.st (b := (23, _, _, _, 0, 0)) (s_iconst (z := 2) d5_22 rfl) ?_
  refine Ends.st (b := (35, _, _, _, 0, 0)) (s_icmp_ne_t d5_23 (by decide) (by decide) (by decide)) ?_
  refine Ends.st (b := (37, _, _, _, 0, 0)) (s_iload d5_35 rfl) ?_
  refine Ends.st (b := (38, _, _, _, 0, 0)) (s_iconst (z := 3) d5_37 rfl) ?_
  refine Ends.st (b := (48, _, _, _, 0, 0)) (s_icmp_ne_t d5_38 (by decide) (by decide) (by decide)) ?_
  refine Ends.st (b := (50, _, _, _, 0, 0)) (s_iload d5_48 rfl) ?_
  refine Ends.st (b := (51, _, _, _, 0, 0)) (s_iconst (z := 4) d5_50 rfl) ?_
  refine Ends.st (b := (64, _, _, _, 0, 0)) (s_icmp_ne_t d5_51 (by decide) (by decide) (by decide)) ?_
  refine Ends.st (b := (66, _, _, _, 0, 0)) (s_iload d5_64 rfl) ?_
  refine Ends.st (b := (67, _, _, _, 0, 0)) (s_iconst (z := 5) d5_66 rfl) ?_
  refine Ends.st (b := (93, _, _, _, 0, 0)) (s_icmp_ne_t d5_67 (by decide) (by decide) (by decide)) ?_
  refine Ends.st (b := (95, _, _, _, 0, 0)) (s_iload d5_93 rfl) ?_
  refine Ends.st (b := (98, _, _, _, 0, 0)) (s_if_eq_f d5_95 (by decide)) ?_
  refine Ends.st (b := (100, _, _, _, 0, 0)) (s_lload d5_98 rfl) ?_
  refine Ends.st (b := (101, _, _, _, 0, 0)) (s_iconst (z := 2) d5_100 rfl) ?_
  refine Ends.st (b := (102, _, _, _, 0, 0)) (s_lushr d5_101) ?_
  refine Ends.st (b := (103, _, _, _, 0, 0)) (s_lconst (z := 1) d5_102 rfl) ?_
  refine Ends.st (b := (104, _, _, _, 0, 0)) (s_land d5_103) ?_
  refine Ends.st (b := (105, _, _, _, 0, 0)) (s_l2i d5_104) ?_
  exact e_ireturn d5_105 rfl (by decide) (by decide)
theorem tl0 {l : Launch} {Z : State} {a0 : Array Value} (hw : ∀ d ∈ tables_1, d.before a0 Z = true) {ρ : oM} (a b d f : Int64) (sel : Int32) (off : Nat) (ho : off ≤ 2) (wd ws' ss' ms' : List Value) (v3 v4 : Int32) (hD : (∀ j, j < 7 → ws'[j]? = some (.int (Int32.ofNat (WU kf 7 j).1)) ∧ ss'[j]? = some (.int (Int32.ofNat (WU kf 7 j).2)) ∧ ms'[j]? = some (.long (mk (kf j))))) (hwd : ∀ w, w ≤ 2 → wd[off + w]? = some (.long (abc a b d w))) : ∀ p, p < 7 → EndsE l Z CK ρ "com/example/linearis/linearis/bundled/LayoutGetPinLaw" "law" code maxLocals room_1 ret (161, [.val (.long a), .second, .val (.long b), .second, .val (.long d), .second, .val (.long f), .second, .val (.int sel), .val (.int (Int32.ofNat p)), .val (.int (Int32.ofNat off)), .val (.int 0), .val (.ref 0), .val (.ref 1), .val (.ref 5), .unset], [], [.inr (.int, [.int 5, .int 0, .int 2147483647, .int 2147483647, .int 2147483647, .int 3, .int 1]), .inl (0, [.ref 2, .ref 3, .ref 4, .int v3, .int v4]), .inr (.int, ws'), .inr (.int, ss'), .inr (.long, ms'), .inr (.long, wd)], 6, 41) (some (.int 1))
  | 0, _ => by
    obtain ⟨d1, d2, d3⟩ := hD 0 (by decide)
    rw [show WU kf 7 0 = (0, 0) from by decide] at d1 d2
    refine EndsE.st (b := (163, _, _, _, 6, 41)) (s_aload at_161 rfl rfl) ?_
    refine EndsE.st (b := (165, _, _, _, 6, 41)) (s_aload at_163 rfl rfl) ?_
    refine EndsE.st (b := (167, _, _, _, 6, 41)) (s_iload at_165 rfl) ?_
    refine EndsE.st (b := (169, _, _, _, 6, 41)) (s_iload at_167 rfl) ?_
    refine EndsE.st (b := (172, _, [_], _, 6, 41)) (s_callV (W := 0) (cid := 0) (hw _ (List.mem_of_getElem? (i := 27) rfl)) (hw _ (List.mem_of_getElem? (i := 29) rfl)) (hw _ (List.mem_of_getElem? (i := 4) rfl)) (hw _ (List.mem_of_getElem? (i := 31) rfl)) (hw _ (List.mem_of_getElem? (i := 28) rfl)) (hw _ (List.mem_of_getElem? (i := 30) rfl)) (by decide) rfl (lenOf pd4 rfl) at_169 rfl (mget hw 0 0 off 0 _ _ (by decide) (by omega) d1 d2 d3 (hwd 0 (by decide))) rfl rfl (by decide) (by decide) (by decide) (by decide)) ?_
    refine EndsE.st (b := (174, [_, _, _, _, _, _, _, _, _, _, _, _, _, _, _, _], _, _, 6, 41)) (s_istore at_172 rfl) ?_
    refine EndsE.st (b := (176, _, _, _, 6, 41)) (s_iload at_174 rfl) ?_
    refine EndsE.st (b := (177, _, _, _, 6, 41)) (s_lloadN at_176 rfl) ?_
    refine EndsE.st (b := (178, _, _, _, 6, 41)) (s_lloadN at_177 rfl) ?_
    refine EndsE.st (b := (180, _, _, _, 6, 41)) (s_lload at_178 rfl) ?_
    refine EndsE.st (b := (182, _, _, _, 6, 41)) (s_iload at_180 rfl) ?_
    refine EndsE.st (b := (184, _, _, _, 6, 41)) (s_iload at_182 rfl) ?_
    refine EndsE.st (b := (187, _, [_, _], _, 6, 41)) (s_callS (W := 1) (hw _ (List.mem_of_getElem? (i := 32) rfl)) (hw _ (List.mem_of_getElem? (i := 33) rfl)) (hw _ (List.mem_of_getElem? (i := 34) rfl)) (hw _ (List.mem_of_getElem? (i := 35) rfl)) (by decide) (lenOf pd5 rfl) at_184 (mex00 hw _ _ _) rfl rfl (by decide) (by decide) (by decide) (by decide)) ?_
    refine EndsE.st (b := (190, _, _, _, 6, 41)) (s_icmp_ne_f at_187 (by rw [ush0]; rfl)) ?_
    refine EndsE.st (b := (191, _, _, _, 6, 41)) (s_iconst (z := 1) at_190 rfl) ?_
    refine EndsE.st (b := (195, _, _, _, 6, 41)) (s_goto at_191 (by decide) (by decide)) ?_
    exact ⟨_, e_nreturn at_195 rfl (by simp) rfl (by decide) (by decide)⟩
  | 1, _ => by
    obtain ⟨d1, d2, d3⟩ := hD 1 (by decide)
    rw [show WU kf 7 1 = (0, 3) from by decide] at d1 d2
    refine EndsE.st (b := (163, _, _, _, 6, 41)) (s_aload at_161 rfl rfl) ?_
    refine EndsE.st (b := (165, _, _, _, 6, 41)) (s_aload at_163 rfl rfl) ?_
    refine EndsE.st (b := (167, _, _, _, 6, 41)) (s_iload at_165 rfl) ?_
    refine EndsE.st (b := (169, _, _, _, 6, 41)) (s_iload at_167 rfl) ?_
    refine EndsE.st (b := (172, _, [_], _, 6, 41)) (s_callV (W := 0) (cid := 0) (hw _ (List.mem_of_getElem? (i := 27) rfl)) (hw _ (List.mem_of_getElem? (i := 29) rfl)) (hw _ (List.mem_of_getElem? (i := 4) rfl)) (hw _ (List.mem_of_getElem? (i := 31) rfl)) (hw _ (List.mem_of_getElem? (i := 28) rfl)) (hw _ (List.mem_of_getElem? (i := 30) rfl)) (by decide) rfl (lenOf pd4 rfl) at_169 rfl (mget hw 0 3 off 1 _ _ (by decide) (by omega) d1 d2 d3 (hwd 0 (by decide))) rfl rfl (by decide) (by decide) (by decide) (by decide)) ?_
    refine EndsE.st (b := (174, [_, _, _, _, _, _, _, _, _, _, _, _, _, _, _, _], _, _, 6, 41)) (s_istore at_172 rfl) ?_
    refine EndsE.st (b := (176, _, _, _, 6, 41)) (s_iload at_174 rfl) ?_
    refine EndsE.st (b := (177, _, _, _, 6, 41)) (s_lloadN at_176 rfl) ?_
    refine EndsE.st (b := (178, _, _, _, 6, 41)) (s_lloadN at_177 rfl) ?_
    refine EndsE.st (b := (180, _, _, _, 6, 41)) (s_lload at_178 rfl) ?_
    refine EndsE.st (b := (182, _, _, _, 6, 41)) (s_iload at_180 rfl) ?_
    refine EndsE.st (b := (184, _, _, _, 6, 41)) (s_iload at_182 rfl) ?_
    refine EndsE.st (b := (187, _, [_, _], _, 6, 41)) (s_callS (W := 1) (hw _ (List.mem_of_getElem? (i := 32) rfl)) (hw _ (List.mem_of_getElem? (i := 33) rfl)) (hw _ (List.mem_of_getElem? (i := 34) rfl)) (hw _ (List.mem_of_getElem? (i := 35) rfl)) (by decide) (lenOf pd5 rfl) at_184 (mex10 hw _ _ _) rfl rfl (by decide) (by decide) (by decide) (by decide)) ?_
    refine EndsE.st (b := (190, _, _, _, 6, 41)) (s_icmp_ne_f at_187 (by show (_ &&& (0 : Int64)).toInt32 = 0; rw [Int64.and_zero]; rfl)) ?_
    refine EndsE.st (b := (191, _, _, _, 6, 41)) (s_iconst (z := 1) at_190 rfl) ?_
    refine EndsE.st (b := (195, _, _, _, 6, 41)) (s_goto at_191 (by decide) (by decide)) ?_
    exact ⟨_, e_nreturn at_195 rfl (by simp) rfl (by decide) (by decide)⟩
  | 2, _ => by
    obtain ⟨d1, d2, d3⟩ := hD 2 (by decide)
    rw [show WU kf 7 2 = (0, 3) from by decide] at d1 d2
    refine EndsE.st (b := (163, _, _, _, 6, 41)) (s_aload at_161 rfl rfl) ?_
    refine EndsE.st (b := (165, _, _, _, 6, 41)) (s_aload at_163 rfl rfl) ?_
    refine EndsE.st (b := (167, _, _, _, 6, 41)) (s_iload at_165 rfl) ?_
    refine EndsE.st (b := (169, _, _, _, 6, 41)) (s_iload at_167 rfl) ?_
    refine EndsE.st (b := (172, _, [_], _, 6, 41)) (s_callV (W := 0) (cid := 0) (hw _ (List.mem_of_getElem? (i := 27) rfl)) (hw _ (List.mem_of_getElem? (i := 29) rfl)) (hw _ (List.mem_of_getElem? (i := 4) rfl)) (hw _ (List.mem_of_getElem? (i := 31) rfl)) (hw _ (List.mem_of_getElem? (i := 28) rfl)) (hw _ (List.mem_of_getElem? (i := 30) rfl)) (by decide) rfl (lenOf pd4 rfl) at_169 rfl (mget hw 0 3 off 2 _ _ (by decide) (by omega) d1 d2 d3 (hwd 0 (by decide))) rfl rfl (by decide) (by decide) (by decide) (by decide)) ?_
    refine EndsE.st (b := (174, [_, _, _, _, _, _, _, _, _, _, _, _, _, _, _, _], _, _, 6, 41)) (s_istore at_172 rfl) ?_
    refine EndsE.st (b := (176, _, _, _, 6, 41)) (s_iload at_174 rfl) ?_
    refine EndsE.st (b := (177, _, _, _, 6, 41)) (s_lloadN at_176 rfl) ?_
    refine EndsE.st (b := (178, _, _, _, 6, 41)) (s_lloadN at_177 rfl) ?_
    refine EndsE.st (b := (180, _, _, _, 6, 41)) (s_lload at_178 rfl) ?_
    refine EndsE.st (b := (182, _, _, _, 6, 41)) (s_iload at_180 rfl) ?_
    refine EndsE.st (b := (184, _, _, _, 6, 41)) (s_iload at_182 rfl) ?_
    refine EndsE.st (b := (187, _, [_, _], _, 6, 41)) (s_callS (W := 1) (hw _ (List.mem_of_getElem? (i := 32) rfl)) (hw _ (List.mem_of_getElem? (i := 33) rfl)) (hw _ (List.mem_of_getElem? (i := 34) rfl)) (hw _ (List.mem_of_getElem? (i := 35) rfl)) (by decide) (lenOf pd5 rfl) at_184 (mex20 hw _ _ _) rfl rfl (by decide) (by decide) (by decide) (by decide)) ?_
    refine EndsE.st (b := (190, _, _, _, 6, 41)) (s_icmp_ne_f at_187 rfl) ?_
    refine EndsE.st (b := (191, _, _, _, 6, 41)) (s_iconst (z := 1) at_190 rfl) ?_
    refine EndsE.st (b := (195, _, _, _, 6, 41)) (s_goto at_191 (by decide) (by decide)) ?_
    exact ⟨_, e_nreturn at_195 rfl (by simp) rfl (by decide) (by decide)⟩
  | 3, _ => by
    obtain ⟨d1, d2, d3⟩ := hD 3 (by decide)
    rw [show WU kf 7 3 = (1, 0) from by decide] at d1 d2
    refine EndsE.st (b := (163, _, _, _, 6, 41)) (s_aload at_161 rfl rfl) ?_
    refine EndsE.st (b := (165, _, _, _, 6, 41)) (s_aload at_163 rfl rfl) ?_
    refine EndsE.st (b := (167, _, _, _, 6, 41)) (s_iload at_165 rfl) ?_
    refine EndsE.st (b := (169, _, _, _, 6, 41)) (s_iload at_167 rfl) ?_
    refine EndsE.st (b := (172, _, [_], _, 6, 41)) (s_callV (W := 0) (cid := 0) (hw _ (List.mem_of_getElem? (i := 27) rfl)) (hw _ (List.mem_of_getElem? (i := 29) rfl)) (hw _ (List.mem_of_getElem? (i := 4) rfl)) (hw _ (List.mem_of_getElem? (i := 31) rfl)) (hw _ (List.mem_of_getElem? (i := 28) rfl)) (hw _ (List.mem_of_getElem? (i := 30) rfl)) (by decide) rfl (lenOf pd4 rfl) at_169 rfl (mget hw 1 0 off 3 _ _ (by decide) (by omega) d1 d2 d3 (hwd 1 (by decide))) rfl rfl (by decide) (by decide) (by decide) (by decide)) ?_
    refine EndsE.st (b := (174, [_, _, _, _, _, _, _, _, _, _, _, _, _, _, _, _], _, _, 6, 41)) (s_istore at_172 rfl) ?_
    refine EndsE.st (b := (176, _, _, _, 6, 41)) (s_iload at_174 rfl) ?_
    refine EndsE.st (b := (177, _, _, _, 6, 41)) (s_lloadN at_176 rfl) ?_
    refine EndsE.st (b := (178, _, _, _, 6, 41)) (s_lloadN at_177 rfl) ?_
    refine EndsE.st (b := (180, _, _, _, 6, 41)) (s_lload at_178 rfl) ?_
    refine EndsE.st (b := (182, _, _, _, 6, 41)) (s_iload at_180 rfl) ?_
    refine EndsE.st (b := (184, _, _, _, 6, 41)) (s_iload at_182 rfl) ?_
    refine EndsE.st (b := (187, _, [_, _], _, 6, 41)) (s_callS (W := 1) (hw _ (List.mem_of_getElem? (i := 32) rfl)) (hw _ (List.mem_of_getElem? (i := 33) rfl)) (hw _ (List.mem_of_getElem? (i := 34) rfl)) (hw _ (List.mem_of_getElem? (i := 35) rfl)) (by decide) (lenOf pd5 rfl) at_184 (mex30 hw _ _ _) rfl rfl (by decide) (by decide) (by decide) (by decide)) ?_
    refine EndsE.st (b := (190, _, _, _, 6, 41)) (s_icmp_ne_f at_187 (by rw [ush0]; rfl)) ?_
    refine EndsE.st (b := (191, _, _, _, 6, 41)) (s_iconst (z := 1) at_190 rfl) ?_
    refine EndsE.st (b := (195, _, _, _, 6, 41)) (s_goto at_191 (by decide) (by decide)) ?_
    exact ⟨_, e_nreturn at_195 rfl (by simp) rfl (by decide) (by decide)⟩
  | 4, _ => by
    obtain ⟨d1, d2, d3⟩ := hD 4 (by decide)
    rw [show WU kf 7 4 = (1, 31) from by decide] at d1 d2
    refine EndsE.st (b := (163, _, _, _, 6, 41)) (s_aload at_161 rfl rfl) ?_
    refine EndsE.st (b := (165, _, _, _, 6, 41)) (s_aload at_163 rfl rfl) ?_
    refine EndsE.st (b := (167, _, _, _, 6, 41)) (s_iload at_165 rfl) ?_
    refine EndsE.st (b := (169, _, _, _, 6, 41)) (s_iload at_167 rfl) ?_
    refine EndsE.st (b := (172, _, [_], _, 6, 41)) (s_callV (W := 0) (cid := 0) (hw _ (List.mem_of_getElem? (i := 27) rfl)) (hw _ (List.mem_of_getElem? (i := 29) rfl)) (hw _ (List.mem_of_getElem? (i := 4) rfl)) (hw _ (List.mem_of_getElem? (i := 31) rfl)) (hw _ (List.mem_of_getElem? (i := 28) rfl)) (hw _ (List.mem_of_getElem? (i := 30) rfl)) (by decide) rfl (lenOf pd4 rfl) at_169 rfl (mget hw 1 31 off 4 _ _ (by decide) (by omega) d1 d2 d3 (hwd 1 (by decide))) rfl rfl (by decide) (by decide) (by decide) (by decide)) ?_
    refine EndsE.st (b := (174, [_, _, _, _, _, _, _, _, _, _, _, _, _, _, _, _], _, _, 6, 41)) (s_istore at_172 rfl) ?_
    refine EndsE.st (b := (176, _, _, _, 6, 41)) (s_iload at_174 rfl) ?_
    refine EndsE.st (b := (177, _, _, _, 6, 41)) (s_lloadN at_176 rfl) ?_
    refine EndsE.st (b := (178, _, _, _, 6, 41)) (s_lloadN at_177 rfl) ?_
    refine EndsE.st (b := (180, _, _, _, 6, 41)) (s_lload at_178 rfl) ?_
    refine EndsE.st (b := (182, _, _, _, 6, 41)) (s_iload at_180 rfl) ?_
    refine EndsE.st (b := (184, _, _, _, 6, 41)) (s_iload at_182 rfl) ?_
    refine EndsE.st (b := (187, _, [_, _], _, 6, 41)) (s_callS (W := 1) (hw _ (List.mem_of_getElem? (i := 32) rfl)) (hw _ (List.mem_of_getElem? (i := 33) rfl)) (hw _ (List.mem_of_getElem? (i := 34) rfl)) (hw _ (List.mem_of_getElem? (i := 35) rfl)) (by decide) (lenOf pd5 rfl) at_184 (mex40 hw _ _ _) rfl rfl (by decide) (by decide) (by decide) (by decide)) ?_
    refine EndsE.st (b := (190, _, _, _, 6, 41)) (s_icmp_ne_f at_187 rfl) ?_
    refine EndsE.st (b := (191, _, _, _, 6, 41)) (s_iconst (z := 1) at_190 rfl) ?_
    refine EndsE.st (b := (195, _, _, _, 6, 41)) (s_goto at_191 (by decide) (by decide)) ?_
    exact ⟨_, e_nreturn at_195 rfl (by simp) rfl (by decide) (by decide)⟩
  | 5, _ => by
    obtain ⟨d1, d2, d3⟩ := hD 5 (by decide)
    rw [show WU kf 7 5 = (1, 62) from by decide] at d1 d2
    refine EndsE.st (b := (163, _, _, _, 6, 41)) (s_aload at_161 rfl rfl) ?_
    refine EndsE.st (b := (165, _, _, _, 6, 41)) (s_aload at_163 rfl rfl) ?_
    refine EndsE.st (b := (167, _, _, _, 6, 41)) (s_iload at_165 rfl) ?_
    refine EndsE.st (b := (169, _, _, _, 6, 41)) (s_iload at_167 rfl) ?_
    refine EndsE.st (b := (172, _, [_], _, 6, 41)) (s_callV (W := 0) (cid := 0) (hw _ (List.mem_of_getElem? (i := 27) rfl)) (hw _ (List.mem_of_getElem? (i := 29) rfl)) (hw _ (List.mem_of_getElem? (i := 4) rfl)) (hw _ (List.mem_of_getElem? (i := 31) rfl)) (hw _ (List.mem_of_getElem? (i := 28) rfl)) (hw _ (List.mem_of_getElem? (i := 30) rfl)) (by decide) rfl (lenOf pd4 rfl) at_169 rfl (mget hw 1 62 off 5 _ _ (by decide) (by omega) d1 d2 d3 (hwd 1 (by decide))) rfl rfl (by decide) (by decide) (by decide) (by decide)) ?_
    refine EndsE.st (b := (174, [_, _, _, _, _, _, _, _, _, _, _, _, _, _, _, _], _, _, 6, 41)) (s_istore at_172 rfl) ?_
    refine EndsE.st (b := (176, _, _, _, 6, 41)) (s_iload at_174 rfl) ?_
    refine EndsE.st (b := (177, _, _, _, 6, 41)) (s_lloadN at_176 rfl) ?_
    refine EndsE.st (b := (178, _, _, _, 6, 41)) (s_lloadN at_177 rfl) ?_
    refine EndsE.st (b := (180, _, _, _, 6, 41)) (s_lload at_178 rfl) ?_
    refine EndsE.st (b := (182, _, _, _, 6, 41)) (s_iload at_180 rfl) ?_
    refine EndsE.st (b := (184, _, _, _, 6, 41)) (s_iload at_182 rfl) ?_
    refine EndsE.st (b := (187, _, [_, _], _, 6, 41)) (s_callS (W := 1) (hw _ (List.mem_of_getElem? (i := 32) rfl)) (hw _ (List.mem_of_getElem? (i := 33) rfl)) (hw _ (List.mem_of_getElem? (i := 34) rfl)) (hw _ (List.mem_of_getElem? (i := 35) rfl)) (by decide) (lenOf pd5 rfl) at_184 (mex50 hw _ _ _) rfl rfl (by decide) (by decide) (by decide) (by decide)) ?_
    refine EndsE.st (b := (190, _, _, _, 6, 41)) (s_icmp_ne_f at_187 rfl) ?_
    refine EndsE.st (b := (191, _, _, _, 6, 41)) (s_iconst (z := 1) at_190 rfl) ?_
    refine EndsE.st (b := (195, _, _, _, 6, 41)) (s_goto at_191 (by decide) (by decide)) ?_
    exact ⟨_, e_nreturn at_195 rfl (by simp) rfl (by decide) (by decide)⟩
  | 6, _ => by
    obtain ⟨d1, d2, d3⟩ := hD 6 (by decide)
    rw [show WU kf 7 6 = (2, 0) from by decide] at d1 d2
    refine EndsE.st (b := (163, _, _, _, 6, 41)) (s_aload at_161 rfl rfl) ?_
    refine EndsE.st (b := (165, _, _, _, 6, 41)) (s_aload at_163 rfl rfl) ?_
    refine EndsE.st (b := (167, _, _, _, 6, 41)) (s_iload at_165 rfl) ?_
    refine EndsE.st (b := (169, _, _, _, 6, 41)) (s_iload at_167 rfl) ?_
    refine EndsE.st (b := (172, _, [_], _, 6, 41)) (s_callV (W := 0) (cid := 0) (hw _ (List.mem_of_getElem? (i := 27) rfl)) (hw _ (List.mem_of_getElem? (i := 29) rfl)) (hw _ (List.mem_of_getElem? (i := 4) rfl)) (hw _ (List.mem_of_getElem? (i := 31) rfl)) (hw _ (List.mem_of_getElem? (i := 28) rfl)) (hw _ (List.mem_of_getElem? (i := 30) rfl)) (by decide) rfl (lenOf pd4 rfl) at_169 rfl (mget hw 2 0 off 6 _ _ (by decide) (by omega) d1 d2 d3 (hwd 2 (by decide))) rfl rfl (by decide) (by decide) (by decide) (by decide)) ?_
    refine EndsE.st (b := (174, [_, _, _, _, _, _, _, _, _, _, _, _, _, _, _, _], _, _, 6, 41)) (s_istore at_172 rfl) ?_
    refine EndsE.st (b := (176, _, _, _, 6, 41)) (s_iload at_174 rfl) ?_
    refine EndsE.st (b := (177, _, _, _, 6, 41)) (s_lloadN at_176 rfl) ?_
    refine EndsE.st (b := (178, _, _, _, 6, 41)) (s_lloadN at_177 rfl) ?_
    refine EndsE.st (b := (180, _, _, _, 6, 41)) (s_lload at_178 rfl) ?_
    refine EndsE.st (b := (182, _, _, _, 6, 41)) (s_iload at_180 rfl) ?_
    refine EndsE.st (b := (184, _, _, _, 6, 41)) (s_iload at_182 rfl) ?_
    refine EndsE.st (b := (187, _, [_, _], _, 6, 41)) (s_callS (W := 1) (hw _ (List.mem_of_getElem? (i := 32) rfl)) (hw _ (List.mem_of_getElem? (i := 33) rfl)) (hw _ (List.mem_of_getElem? (i := 34) rfl)) (hw _ (List.mem_of_getElem? (i := 35) rfl)) (by decide) (lenOf pd5 rfl) at_184 (mex60 hw _ _ _) rfl rfl (by decide) (by decide) (by decide) (by decide)) ?_
    refine EndsE.st (b := (190, _, _, _, 6, 41)) (s_icmp_ne_f at_187 (by rw [ush0]; rfl)) ?_
    refine EndsE.st (b := (191, _, _, _, 6, 41)) (s_iconst (z := 1) at_190 rfl) ?_
    refine EndsE.st (b := (195, _, _, _, 6, 41)) (s_goto at_191 (by decide) (by decide)) ?_
    exact ⟨_, e_nreturn at_195 rfl (by simp) rfl (by decide) (by decide)⟩
  | p + 7, h => absurd h (by omega)
theorem tl1 {l : Launch} {Z : State} {a0 : Array Value} (hw : ∀ d ∈ tables_1, d.before a0 Z = true) {ρ : oM} (a b d f : Int64) (sel : Int32) (off : Nat) (ho : off ≤ 2) (wd ws' ss' ms' : List Value) (v3 v4 : Int32) (hD : (∀ j, j < 7 → ws'[j]? = some (.int (Int32.ofNat (WU kf 5 j).1)) ∧ ss'[j]? = some (.int (Int32.ofNat (WU kf 5 j).2)) ∧ ms'[j]? = some (.long (mk (kf j))))) (hwd : ∀ w, w ≤ 2 → wd[off + w]? = some (.long (abc a b d w))) : ∀ p, p < 7 → EndsE l Z CK ρ "com/example/linearis/linearis/bundled/LayoutGetPinLaw" "law" code maxLocals room_1 ret (161, [.val (.long a), .second, .val (.long b), .second, .val (.long d), .second, .val (.long f), .second, .val (.int sel), .val (.int (Int32.ofNat p)), .val (.int (Int32.ofNat off)), .val (.int 1), .val (.ref 0), .val (.ref 1), .val (.ref 5), .unset], [], [.inr (.int, [.int 5, .int 0, .int 2147483647, .int 2147483647, .int 2147483647, .int 3, .int 1]), .inl (0, [.ref 2, .ref 3, .ref 4, .int v3, .int v4]), .inr (.int, ws'), .inr (.int, ss'), .inr (.long, ms'), .inr (.long, wd)], 6, 41) (some (.int 1))
  | 0, _ => by
    obtain ⟨d1, d2, d3⟩ := hD 0 (by decide)
    rw [show WU kf 5 0 = (0, 0) from by decide] at d1 d2
    refine EndsE.st (b := (163, _, _, _, 6, 41)) (s_aload at_161 rfl rfl) ?_
    refine EndsE.st (b := (165, _, _, _, 6, 41)) (s_aload at_163 rfl rfl) ?_
    refine EndsE.st (b := (167, _, _, _, 6, 41)) (s_iload at_165 rfl) ?_
    refine EndsE.st (b := (169, _, _, _, 6, 41)) (s_iload at_167 rfl) ?_
    refine EndsE.st (b := (172, _, [_], _, 6, 41)) (s_callV (W := 0) (cid := 0) (hw _ (List.mem_of_getElem? (i := 27) rfl)) (hw _ (List.mem_of_getElem? (i := 29) rfl)) (hw _ (List.mem_of_getElem? (i := 4) rfl)) (hw _ (List.mem_of_getElem? (i := 31) rfl)) (hw _ (List.mem_of_getElem? (i := 28) rfl)) (hw _ (List.mem_of_getElem? (i := 30) rfl)) (by decide) rfl (lenOf pd4 rfl) at_169 rfl (mget hw 0 0 off 0 _ _ (by decide) (by omega) d1 d2 d3 (hwd 0 (by decide))) rfl rfl (by decide) (by decide) (by decide) (by decide)) ?_
    refine EndsE.st (b := (174, [_, _, _, _, _, _, _, _, _, _, _, _, _, _, _, _], _, _, 6, 41)) (s_istore at_172 rfl) ?_
    refine EndsE.st (b := (176, _, _, _, 6, 41)) (s_iload at_174 rfl) ?_
    refine EndsE.st (b := (177, _, _, _, 6, 41)) (s_lloadN at_176 rfl) ?_
    refine EndsE.st (b := (178, _, _, _, 6, 41)) (s_lloadN at_177 rfl) ?_
    refine EndsE.st (b := (180, _, _, _, 6, 41)) (s_lload at_178 rfl) ?_
    refine EndsE.st (b := (182, _, _, _, 6, 41)) (s_iload at_180 rfl) ?_
    refine EndsE.st (b := (184, _, _, _, 6, 41)) (s_iload at_182 rfl) ?_
    refine EndsE.st (b := (187, _, [_, _], _, 6, 41)) (s_callS (W := 1) (hw _ (List.mem_of_getElem? (i := 32) rfl)) (hw _ (List.mem_of_getElem? (i := 33) rfl)) (hw _ (List.mem_of_getElem? (i := 34) rfl)) (hw _ (List.mem_of_getElem? (i := 35) rfl)) (by decide) (lenOf pd5 rfl) at_184 (mex01 hw _ _ _) rfl rfl (by decide) (by decide) (by decide) (by decide)) ?_
    refine EndsE.st (b := (190, _, _, _, 6, 41)) (s_icmp_ne_f at_187 (by rw [ush0]; rfl)) ?_
    refine EndsE.st (b := (191, _, _, _, 6, 41)) (s_iconst (z := 1) at_190 rfl) ?_
    refine EndsE.st (b := (195, _, _, _, 6, 41)) (s_goto at_191 (by decide) (by decide)) ?_
    exact ⟨_, e_nreturn at_195 rfl (by simp) rfl (by decide) (by decide)⟩
  | 1, _ => by
    obtain ⟨d1, d2, d3⟩ := hD 1 (by decide)
    rw [show WU kf 5 1 = (0, 3) from by decide] at d1 d2
    refine EndsE.st (b := (163, _, _, _, 6, 41)) (s_aload at_161 rfl rfl) ?_
    refine EndsE.st (b := (165, _, _, _, 6, 41)) (s_aload at_163 rfl rfl) ?_
    refine EndsE.st (b := (167, _, _, _, 6, 41)) (s_iload at_165 rfl) ?_
    refine EndsE.st (b := (169, _, _, _, 6, 41)) (s_iload at_167 rfl) ?_
    refine EndsE.st (b := (172, _, [_], _, 6, 41)) (s_callV (W := 0) (cid := 0) (hw _ (List.mem_of_getElem? (i := 27) rfl)) (hw _ (List.mem_of_getElem? (i := 29) rfl)) (hw _ (List.mem_of_getElem? (i := 4) rfl)) (hw _ (List.mem_of_getElem? (i := 31) rfl)) (hw _ (List.mem_of_getElem? (i := 28) rfl)) (hw _ (List.mem_of_getElem? (i := 30) rfl)) (by decide) rfl (lenOf pd4 rfl) at_169 rfl (mget hw 0 3 off 1 _ _ (by decide) (by omega) d1 d2 d3 (hwd 0 (by decide))) rfl rfl (by decide) (by decide) (by decide) (by decide)) ?_
    refine EndsE.st (b := (174, [_, _, _, _, _, _, _, _, _, _, _, _, _, _, _, _], _, _, 6, 41)) (s_istore at_172 rfl) ?_
    refine EndsE.st (b := (176, _, _, _, 6, 41)) (s_iload at_174 rfl) ?_
    refine EndsE.st (b := (177, _, _, _, 6, 41)) (s_lloadN at_176 rfl) ?_
    refine EndsE.st (b := (178, _, _, _, 6, 41)) (s_lloadN at_177 rfl) ?_
    refine EndsE.st (b := (180, _, _, _, 6, 41)) (s_lload at_178 rfl) ?_
    refine EndsE.st (b := (182, _, _, _, 6, 41)) (s_iload at_180 rfl) ?_
    refine EndsE.st (b := (184, _, _, _, 6, 41)) (s_iload at_182 rfl) ?_
    refine EndsE.st (b := (187, _, [_, _], _, 6, 41)) (s_callS (W := 1) (hw _ (List.mem_of_getElem? (i := 32) rfl)) (hw _ (List.mem_of_getElem? (i := 33) rfl)) (hw _ (List.mem_of_getElem? (i := 34) rfl)) (hw _ (List.mem_of_getElem? (i := 35) rfl)) (by decide) (lenOf pd5 rfl) at_184 (mex11 hw _ _ _) rfl rfl (by decide) (by decide) (by decide) (by decide)) ?_
    refine EndsE.st (b := (190, _, _, _, 6, 41)) (s_icmp_ne_f at_187 (by show (_ &&& (0 : Int64)).toInt32 = 0; rw [Int64.and_zero]; rfl)) ?_
    refine EndsE.st (b := (191, _, _, _, 6, 41)) (s_iconst (z := 1) at_190 rfl) ?_
    refine EndsE.st (b := (195, _, _, _, 6, 41)) (s_goto at_191 (by decide) (by decide)) ?_
    exact ⟨_, e_nreturn at_195 rfl (by simp) rfl (by decide) (by decide)⟩
  | 2, _ => by
    obtain ⟨d1, d2, d3⟩ := hD 2 (by decide)
    rw [show WU kf 5 2 = (0, 3) from by decide] at d1 d2
    refine EndsE.st (b := (163, _, _, _, 6, 41)) (s_aload at_161 rfl rfl) ?_
    refine EndsE.st (b := (165, _, _, _, 6, 41)) (s_aload at_163 rfl rfl) ?_
    refine EndsE.st (b := (167, _, _, _, 6, 41)) (s_iload at_165 rfl) ?_
    refine EndsE.st (b := (169, _, _, _, 6, 41)) (s_iload at_167 rfl) ?_
    refine EndsE.st (b := (172, _, [_], _, 6, 41)) (s_callV (W := 0) (cid := 0) (hw _ (List.mem_of_getElem? (i := 27) rfl)) (hw _ (List.mem_of_getElem? (i := 29) rfl)) (hw _ (List.mem_of_getElem? (i := 4) rfl)) (hw _ (List.mem_of_getElem? (i := 31) rfl)) (hw _ (List.mem_of_getElem? (i := 28) rfl)) (hw _ (List.mem_of_getElem? (i := 30) rfl)) (by decide) rfl (lenOf pd4 rfl) at_169 rfl (mget hw 0 3 off 2 _ _ (by decide) (by omega) d1 d2 d3 (hwd 0 (by decide))) rfl rfl (by decide) (by decide) (by decide) (by decide)) ?_
    refine EndsE.st (b := (174, [_, _, _, _, _, _, _, _, _, _, _, _, _, _, _, _], _, _, 6, 41)) (s_istore at_172 rfl) ?_
    refine EndsE.st (b := (176, _, _, _, 6, 41)) (s_iload at_174 rfl) ?_
    refine EndsE.st (b := (177, _, _, _, 6, 41)) (s_lloadN at_176 rfl) ?_
    refine EndsE.st (b := (178, _, _, _, 6, 41)) (s_lloadN at_177 rfl) ?_
    refine EndsE.st (b := (180, _, _, _, 6, 41)) (s_lload at_178 rfl) ?_
    refine EndsE.st (b := (182, _, _, _, 6, 41)) (s_iload at_180 rfl) ?_
    refine EndsE.st (b := (184, _, _, _, 6, 41)) (s_iload at_182 rfl) ?_
    refine EndsE.st (b := (187, _, [_, _], _, 6, 41)) (s_callS (W := 1) (hw _ (List.mem_of_getElem? (i := 32) rfl)) (hw _ (List.mem_of_getElem? (i := 33) rfl)) (hw _ (List.mem_of_getElem? (i := 34) rfl)) (hw _ (List.mem_of_getElem? (i := 35) rfl)) (by decide) (lenOf pd5 rfl) at_184 (mex21 hw _ _ _) rfl rfl (by decide) (by decide) (by decide) (by decide)) ?_
    refine EndsE.st (b := (190, _, _, _, 6, 41)) (s_icmp_ne_f at_187 rfl) ?_
    refine EndsE.st (b := (191, _, _, _, 6, 41)) (s_iconst (z := 1) at_190 rfl) ?_
    refine EndsE.st (b := (195, _, _, _, 6, 41)) (s_goto at_191 (by decide) (by decide)) ?_
    exact ⟨_, e_nreturn at_195 rfl (by simp) rfl (by decide) (by decide)⟩
  | 3, _ => by
    obtain ⟨d1, d2, d3⟩ := hD 3 (by decide)
    rw [show WU kf 5 3 = (1, 0) from by decide] at d1 d2
    refine EndsE.st (b := (163, _, _, _, 6, 41)) (s_aload at_161 rfl rfl) ?_
    refine EndsE.st (b := (165, _, _, _, 6, 41)) (s_aload at_163 rfl rfl) ?_
    refine EndsE.st (b := (167, _, _, _, 6, 41)) (s_iload at_165 rfl) ?_
    refine EndsE.st (b := (169, _, _, _, 6, 41)) (s_iload at_167 rfl) ?_
    refine EndsE.st (b := (172, _, [_], _, 6, 41)) (s_callV (W := 0) (cid := 0) (hw _ (List.mem_of_getElem? (i := 27) rfl)) (hw _ (List.mem_of_getElem? (i := 29) rfl)) (hw _ (List.mem_of_getElem? (i := 4) rfl)) (hw _ (List.mem_of_getElem? (i := 31) rfl)) (hw _ (List.mem_of_getElem? (i := 28) rfl)) (hw _ (List.mem_of_getElem? (i := 30) rfl)) (by decide) rfl (lenOf pd4 rfl) at_169 rfl (mget hw 1 0 off 3 _ _ (by decide) (by omega) d1 d2 d3 (hwd 1 (by decide))) rfl rfl (by decide) (by decide) (by decide) (by decide)) ?_
    refine EndsE.st (b := (174, [_, _, _, _, _, _, _, _, _, _, _, _, _, _, _, _], _, _, 6, 41)) (s_istore at_172 rfl) ?_
    refine EndsE.st (b := (176, _, _, _, 6, 41)) (s_iload at_174 rfl) ?_
    refine EndsE.st (b := (177, _, _, _, 6, 41)) (s_lloadN at_176 rfl) ?_
    refine EndsE.st (b := (178, _, _, _, 6, 41)) (s_lloadN at_177 rfl) ?_
    refine EndsE.st (b := (180, _, _, _, 6, 41)) (s_lload at_178 rfl) ?_
    refine EndsE.st (b := (182, _, _, _, 6, 41)) (s_iload at_180 rfl) ?_
    refine EndsE.st (b := (184, _, _, _, 6, 41)) (s_iload at_182 rfl) ?_
    refine EndsE.st (b := (187, _, [_, _], _, 6, 41)) (s_callS (W := 1) (hw _ (List.mem_of_getElem? (i := 32) rfl)) (hw _ (List.mem_of_getElem? (i := 33) rfl)) (hw _ (List.mem_of_getElem? (i := 34) rfl)) (hw _ (List.mem_of_getElem? (i := 35) rfl)) (by decide) (lenOf pd5 rfl) at_184 (mex31 hw _ _ _) rfl rfl (by decide) (by decide) (by decide) (by decide)) ?_
    refine EndsE.st (b := (190, _, _, _, 6, 41)) (s_icmp_ne_f at_187 (by rw [ush0]; rfl)) ?_
    refine EndsE.st (b := (191, _, _, _, 6, 41)) (s_iconst (z := 1) at_190 rfl) ?_
    refine EndsE.st (b := (195, _, _, _, 6, 41)) (s_goto at_191 (by decide) (by decide)) ?_
    exact ⟨_, e_nreturn at_195 rfl (by simp) rfl (by decide) (by decide)⟩
  | 4, _ => by
    obtain ⟨d1, d2, d3⟩ := hD 4 (by decide)
    rw [show WU kf 5 4 = (1, 31) from by decide] at d1 d2
    refine EndsE.st (b := (163, _, _, _, 6, 41)) (s_aload at_161 rfl rfl) ?_
    refine EndsE.st (b := (165, _, _, _, 6, 41)) (s_aload at_163 rfl rfl) ?_
    refine EndsE.st (b := (167, _, _, _, 6, 41)) (s_iload at_165 rfl) ?_
    refine EndsE.st (b := (169, _, _, _, 6, 41)) (s_iload at_167 rfl) ?_
    refine EndsE.st (b := (172, _, [_], _, 6, 41)) (s_callV (W := 0) (cid := 0) (hw _ (List.mem_of_getElem? (i := 27) rfl)) (hw _ (List.mem_of_getElem? (i := 29) rfl)) (hw _ (List.mem_of_getElem? (i := 4) rfl)) (hw _ (List.mem_of_getElem? (i := 31) rfl)) (hw _ (List.mem_of_getElem? (i := 28) rfl)) (hw _ (List.mem_of_getElem? (i := 30) rfl)) (by decide) rfl (lenOf pd4 rfl) at_169 rfl (mget hw 1 31 off 4 _ _ (by decide) (by omega) d1 d2 d3 (hwd 1 (by decide))) rfl rfl (by decide) (by decide) (by decide) (by decide)) ?_
    refine EndsE.st (b := (174, [_, _, _, _, _, _, _, _, _, _, _, _, _, _, _, _], _, _, 6, 41)) (s_istore at_172 rfl) ?_
    refine EndsE.st (b := (176, _, _, _, 6, 41)) (s_iload at_174 rfl) ?_
    refine EndsE.st (b := (177, _, _, _, 6, 41)) (s_lloadN at_176 rfl) ?_
    refine EndsE.st (b := (178, _, _, _, 6, 41)) (s_lloadN at_177 rfl) ?_
    refine EndsE.st (b := (180, _, _, _, 6, 41)) (s_lload at_178 rfl) ?_
    refine EndsE.st (b := (182, _, _, _, 6, 41)) (s_iload at_180 rfl) ?_
    refine EndsE.st (b := (184, _, _, _, 6, 41)) (s_iload at_182 rfl) ?_
    refine EndsE.st (b := (187, _, [_, _], _, 6, 41)) (s_callS (W := 1) (hw _ (List.mem_of_getElem? (i := 32) rfl)) (hw _ (List.mem_of_getElem? (i := 33) rfl)) (hw _ (List.mem_of_getElem? (i := 34) rfl)) (hw _ (List.mem_of_getElem? (i := 35) rfl)) (by decide) (lenOf pd5 rfl) at_184 (mex41 hw _ _ _) rfl rfl (by decide) (by decide) (by decide) (by decide)) ?_
    refine EndsE.st (b := (190, _, _, _, 6, 41)) (s_icmp_ne_f at_187 rfl) ?_
    refine EndsE.st (b := (191, _, _, _, 6, 41)) (s_iconst (z := 1) at_190 rfl) ?_
    refine EndsE.st (b := (195, _, _, _, 6, 41)) (s_goto at_191 (by decide) (by decide)) ?_
    exact ⟨_, e_nreturn at_195 rfl (by simp) rfl (by decide) (by decide)⟩
  | 5, _ => by
    obtain ⟨d1, d2, d3⟩ := hD 5 (by decide)
    rw [show WU kf 5 5 = (2, 0) from by decide] at d1 d2
    refine EndsE.st (b := (163, _, _, _, 6, 41)) (s_aload at_161 rfl rfl) ?_
    refine EndsE.st (b := (165, _, _, _, 6, 41)) (s_aload at_163 rfl rfl) ?_
    refine EndsE.st (b := (167, _, _, _, 6, 41)) (s_iload at_165 rfl) ?_
    refine EndsE.st (b := (169, _, _, _, 6, 41)) (s_iload at_167 rfl) ?_
    refine EndsE.st (b := (172, _, [_], _, 6, 41)) (s_callV (W := 0) (cid := 0) (hw _ (List.mem_of_getElem? (i := 27) rfl)) (hw _ (List.mem_of_getElem? (i := 29) rfl)) (hw _ (List.mem_of_getElem? (i := 4) rfl)) (hw _ (List.mem_of_getElem? (i := 31) rfl)) (hw _ (List.mem_of_getElem? (i := 28) rfl)) (hw _ (List.mem_of_getElem? (i := 30) rfl)) (by decide) rfl (lenOf pd4 rfl) at_169 rfl (mget hw 2 0 off 5 _ _ (by decide) (by omega) d1 d2 d3 (hwd 2 (by decide))) rfl rfl (by decide) (by decide) (by decide) (by decide)) ?_
    refine EndsE.st (b := (174, [_, _, _, _, _, _, _, _, _, _, _, _, _, _, _, _], _, _, 6, 41)) (s_istore at_172 rfl) ?_
    refine EndsE.st (b := (176, _, _, _, 6, 41)) (s_iload at_174 rfl) ?_
    refine EndsE.st (b := (177, _, _, _, 6, 41)) (s_lloadN at_176 rfl) ?_
    refine EndsE.st (b := (178, _, _, _, 6, 41)) (s_lloadN at_177 rfl) ?_
    refine EndsE.st (b := (180, _, _, _, 6, 41)) (s_lload at_178 rfl) ?_
    refine EndsE.st (b := (182, _, _, _, 6, 41)) (s_iload at_180 rfl) ?_
    refine EndsE.st (b := (184, _, _, _, 6, 41)) (s_iload at_182 rfl) ?_
    refine EndsE.st (b := (187, _, [_, _], _, 6, 41)) (s_callS (W := 1) (hw _ (List.mem_of_getElem? (i := 32) rfl)) (hw _ (List.mem_of_getElem? (i := 33) rfl)) (hw _ (List.mem_of_getElem? (i := 34) rfl)) (hw _ (List.mem_of_getElem? (i := 35) rfl)) (by decide) (lenOf pd5 rfl) at_184 (mex51 hw _ _ _) rfl rfl (by decide) (by decide) (by decide) (by decide)) ?_
    refine EndsE.st (b := (190, _, _, _, 6, 41)) (s_icmp_ne_f at_187 (by rw [ush0]; rfl)) ?_
    refine EndsE.st (b := (191, _, _, _, 6, 41)) (s_iconst (z := 1) at_190 rfl) ?_
    refine EndsE.st (b := (195, _, _, _, 6, 41)) (s_goto at_191 (by decide) (by decide)) ?_
    exact ⟨_, e_nreturn at_195 rfl (by simp) rfl (by decide) (by decide)⟩
  | 6, _ => by
    obtain ⟨d1, d2, d3⟩ := hD 6 (by decide)
    rw [show WU kf 5 6 = (2, 2) from by decide] at d1 d2
    refine EndsE.st (b := (163, _, _, _, 6, 41)) (s_aload at_161 rfl rfl) ?_
    refine EndsE.st (b := (165, _, _, _, 6, 41)) (s_aload at_163 rfl rfl) ?_
    refine EndsE.st (b := (167, _, _, _, 6, 41)) (s_iload at_165 rfl) ?_
    refine EndsE.st (b := (169, _, _, _, 6, 41)) (s_iload at_167 rfl) ?_
    refine EndsE.st (b := (172, _, [_], _, 6, 41)) (s_callV (W := 0) (cid := 0) (hw _ (List.mem_of_getElem? (i := 27) rfl)) (hw _ (List.mem_of_getElem? (i := 29) rfl)) (hw _ (List.mem_of_getElem? (i := 4) rfl)) (hw _ (List.mem_of_getElem? (i := 31) rfl)) (hw _ (List.mem_of_getElem? (i := 28) rfl)) (hw _ (List.mem_of_getElem? (i := 30) rfl)) (by decide) rfl (lenOf pd4 rfl) at_169 rfl (mget hw 2 2 off 6 _ _ (by decide) (by omega) d1 d2 d3 (hwd 2 (by decide))) rfl rfl (by decide) (by decide) (by decide) (by decide)) ?_
    refine EndsE.st (b := (174, [_, _, _, _, _, _, _, _, _, _, _, _, _, _, _, _], _, _, 6, 41)) (s_istore at_172 rfl) ?_
    refine EndsE.st (b := (176, _, _, _, 6, 41)) (s_iload at_174 rfl) ?_
    refine EndsE.st (b := (177, _, _, _, 6, 41)) (s_lloadN at_176 rfl) ?_
    refine EndsE.st (b := (178, _, _, _, 6, 41)) (s_lloadN at_177 rfl) ?_
    refine EndsE.st (b := (180, _, _, _, 6, 41)) (s_lload at_178 rfl) ?_
    refine EndsE.st (b := (182, _, _, _, 6, 41)) (s_iload at_180 rfl) ?_
    refine EndsE.st (b := (184, _, _, _, 6, 41)) (s_iload at_182 rfl) ?_
    refine EndsE.st (b := (187, _, [_, _], _, 6, 41)) (s_callS (W := 1) (hw _ (List.mem_of_getElem? (i := 32) rfl)) (hw _ (List.mem_of_getElem? (i := 33) rfl)) (hw _ (List.mem_of_getElem? (i := 34) rfl)) (hw _ (List.mem_of_getElem? (i := 35) rfl)) (by decide) (lenOf pd5 rfl) at_184 (mex61 hw _ _ _) rfl rfl (by decide) (by decide) (by decide) (by decide)) ?_
    refine EndsE.st (b := (190, _, _, _, 6, 41)) (s_icmp_ne_f at_187 rfl) ?_
    refine EndsE.st (b := (191, _, _, _, 6, 41)) (s_iconst (z := 1) at_190 rfl) ?_
    refine EndsE.st (b := (195, _, _, _, 6, 41)) (s_goto at_191 (by decide) (by decide)) ?_
    exact ⟨_, e_nreturn at_195 rfl (by simp) rfl (by decide) (by decide)⟩
  | p + 7, h => absurd h (by omega)
theorem law_ok {l : Launch} {Z : State} {a0 : Array Value} (hw : ∀ d ∈ tables_1, d.before a0 Z = true) {ρ : oM} (a b d f : Int64) (sel : Int32) : ∃ A2, Met l Z CK ρ x code maxLocals ret room_1 tables_1 [.long a, .long b, .long d, .long f, .int sel] [] (some (.int 1)) A2 := by
  obtain ⟨p, ep, hp⟩ : ∃ p : Nat, (sel &&& 7) % 7 = Int32.ofNat p ∧ p < 7 := by
    have e : u32 (sel &&& 7) = u32 sel % 8 := (u32_and sel 7).trans (Nat.and_two_pow_sub_one_eq_mod _ 3)
    have e2 : (sel &&& 7).toInt = (u32 sel % 8 : Nat) := by rw [u32_toInt, e, if_pos (by omega)]
    have e3 := (c_irem (sel &&& 7) 7 7 rfl).1 (by omega)
    exact ⟨u32 sel % 8 % 7, Int32.toInt_inj.mp (by rw [e3, e2, toInt_of (by omega)]; rfl), by omega⟩
  obtain ⟨off, eo, ho⟩ : ∃ q : Nat, (jushr sel 3 &&& 3) % 3 = Int32.ofNat q ∧ q ≤ 2 := by
    have e : u32 (jushr sel 3 &&& 3) = u32 (jushr sel 3) % 4 := (u32_and _ 3).trans (Nat.and_two_pow_sub_one_eq_mod _ 2)
    have e2 : (jushr sel 3 &&& 3).toInt = (u32 (jushr sel 3) % 4 : Nat) := by rw [u32_toInt, e, if_pos (by omega)]
    have e3 := (c_irem (jushr sel 3 &&& 3) 3 3 rfl).1 (by omega)
    exact ⟨u32 (jushr sel 3) % 4 % 3, Int32.toInt_inj.mp (by rw [e3, e2, toInt_of (by omega)]; rfl), by omega⟩
  obtain ⟨w5, s5, m5, a5, b5, hD5, hM5⟩ := lMet (l := l) (ρ := ρ) hw kf xf 7 5 (by decide) (by decide) kf_le (ls := [.int 5, .int 0, .int 2147483647, .int 2147483647, .int 2147483647, .int 3, .int 1]) rfl xf_ok
  obtain ⟨w7, s7, m7, a7, b7, hD7, hM7⟩ := lMet (l := l) (ρ := ρ) hw kf xf 7 7 (by decide) (by decide) kf_le (ls := [.int 5, .int 0, .int 2147483647, .int 2147483647, .int 2147483647, .int 3, .int 1]) rfl xf_ok
  refine Met.ofE (L0 := [.val (.long a), .second, .val (.long b), .second, .val (.long d), .second, .val (.long f), .second, .val (.int sel), .unset, .unset, .unset, .unset, .unset, .unset, .unset]) pn0 (oentry rfl) rfl ?_
  refine EndsE.st (b := (2, _, _, _, 0, 0)) (s_iload at_0 rfl) ?_
  refine EndsE.st (b := (4, _, _, _, 0, 0)) (s_bipush (z := 7) at_2 (by decide)) ?_
  refine EndsE.st (b := (5, _, _, _, 0, 0)) (s_iand at_4) ?_
  refine EndsE.st (b := (7, _, _, _, 0, 0)) (s_bipush (z := 7) at_5 (by decide)) ?_
  refine EndsE.st (b := (8, _, _, _, 0, 0)) (s_irem at_7 (by decide)) ?_
  rw [ep]
  refine EndsE.st (b := (10, [_, _, _, _, _, _, _, _, _, _, _, _, _, _, _, _], _, _, 0, 0)) (s_istore at_8 rfl) ?_
  refine EndsE.st (b := (12, _, _, _, 0, 0)) (s_iload at_10 rfl) ?_
  refine EndsE.st (b := (13, _, _, _, 0, 0)) (s_iconst (z := 3) at_12 rfl) ?_
  refine EndsE.st (b := (14, _, _, _, 0, 0)) (s_iushr at_13) ?_
  refine EndsE.st (b := (15, _, _, _, 0, 0)) (s_iconst (z := 3) at_14 rfl) ?_
  refine EndsE.st (b := (16, _, _, _, 0, 0)) (s_iand at_15) ?_
  refine EndsE.st (b := (17, _, _, _, 0, 0)) (s_iconst (z := 3) at_16 rfl) ?_
  refine EndsE.st (b := (18, _, _, _, 0, 0)) (s_irem at_17 (by decide)) ?_
  rw [eo]
  refine EndsE.st (b := (20, [_, _, _, _, _, _, _, _, _, _, _, _, _, _, _, _], _, _, 0, 0)) (s_istore at_18 rfl) ?_
  refine EndsE.st (b := (22, _, _, _, 0, 0)) (s_iload at_20 rfl) ?_
  refine EndsE.st (b := (23, _, _, _, 0, 0)) (s_iconst (z := 5) at_22 rfl) ?_
  refine EndsE.st (b := (24, _, _, _, 0, 0)) (s_iushr at_23) ?_
  refine EndsE.st (b := (25, _, _, _, 0, 0)) (s_iconst (z := 1) at_24 rfl) ?_
  refine EndsE.st (b := (26, _, _, _, 0, 0)) (s_iand at_25) ?_
  refine EndsE.if_eq (pc' := 33) at_26 (by decide) (by decide) (fun he => ?_) (fun he => ?_)
  · skip
    refine EndsE.st (b := (34, _, _, _, 0, 0)) (s_iconst (z := 0) at_33 rfl) ?_
    refine EndsE.st (b := (36, [_, _, _, _, _, _, _, _, _, _, _, _, _, _, _, _], _, _, 0, 0)) (s_istore at_34 rfl) ?_
    refine EndsE.st (b := (38, _, _, _, 0, 0)) (s_bipush (z := 7) at_36 (by decide)) ?_
    refine EndsE.st (b := (40, _, _, [.inr (_, [_, _, _, _, _, _, _])], 1, 7)) (s_newarray (j := 0) (q := 7) (cap := 7) (hw _ (List.mem_of_getElem? (i := 0) rfl)) at_38 rfl (by decide) (by decide) (by decide) (by decide) (by decide) (by decide) rfl) ?_
    refine EndsE.st (b := (42, [_, _, _, _, _, _, _, _, _, _, _, _, _, _, _, _], _, _, 1, 7)) (s_astore at_40 rfl rfl) ?_
    refine EndsE.st (b := (44, _, _, _, 1, 7)) (s_aload at_42 rfl rfl) ?_
    refine EndsE.st (b := (45, _, _, _, 1, 7)) (s_iconst (z := 0) at_44 rfl) ?_
    refine EndsE.st (b := (46, _, _, _, 1, 7)) (s_iconst (z := 5) at_45 rfl) ?_
    refine EndsE.st (b := (47, _, _, [.inr (_, [_, _, _, _, _, _, _])], 1, 7)) (s_iastore at_46 rfl (by decide) (Nat.le_of_ble_eq_true rfl) rfl) ?_
    refine EndsE.st (b := (49, _, _, _, 1, 7)) (s_aload at_47 rfl rfl) ?_
    refine EndsE.st (b := (50, _, _, _, 1, 7)) (s_iconst (z := 1) at_49 rfl) ?_
    refine EndsE.st (b := (51, _, _, _, 1, 7)) (s_iconst (z := 0) at_50 rfl) ?_
    refine EndsE.st (b := (52, _, _, [.inr (_, [_, _, _, _, _, _, _])], 1, 7)) (s_iastore at_51 rfl (by decide) (Nat.le_of_ble_eq_true rfl) rfl) ?_
    refine EndsE.st (b := (54, _, _, _, 1, 7)) (s_aload at_52 rfl rfl) ?_
    refine EndsE.st (b := (55, _, _, _, 1, 7)) (s_iconst (z := 2) at_54 rfl) ?_
    refine EndsE.st (b := (57, _, _, _, 1, 7)) (s_ldc (hw _ (List.mem_of_getElem? (i := 1) rfl)) at_55) ?_
    refine EndsE.st (b := (58, _, _, [.inr (_, [_, _, _, _, _, _, _])], 1, 7)) (s_iastore at_57 rfl (by decide) (Nat.le_of_ble_eq_true rfl) rfl) ?_
    refine EndsE.st (b := (60, _, _, _, 1, 7)) (s_aload at_58 rfl rfl) ?_
    refine EndsE.st (b := (61, _, _, _, 1, 7)) (s_iconst (z := 3) at_60 rfl) ?_
    refine EndsE.st (b := (63, _, _, _, 1, 7)) (s_ldc (hw _ (List.mem_of_getElem? (i := 1) rfl)) at_61) ?_
    refine EndsE.st (b := (64, _, _, [.inr (_, [_, _, _, _, _, _, _])], 1, 7)) (s_iastore at_63 rfl (by decide) (Nat.le_of_ble_eq_true rfl) rfl) ?_
    refine EndsE.st (b := (66, _, _, _, 1, 7)) (s_aload at_64 rfl rfl) ?_
    refine EndsE.st (b := (67, _, _, _, 1, 7)) (s_iconst (z := 4) at_66 rfl) ?_
    refine EndsE.st (b := (69, _, _, _, 1, 7)) (s_ldc (hw _ (List.mem_of_getElem? (i := 1) rfl)) at_67) ?_
    refine EndsE.st (b := (70, _, _, [.inr (_, [_, _, _, _, _, _, _])], 1, 7)) (s_iastore at_69 rfl (by decide) (Nat.le_of_ble_eq_true rfl) rfl) ?_
    refine EndsE.st (b := (72, _, _, _, 1, 7)) (s_aload at_70 rfl rfl) ?_
    refine EndsE.st (b := (73, _, _, _, 1, 7)) (s_iconst (z := 5) at_72 rfl) ?_
    refine EndsE.st (b := (74, _, _, _, 1, 7)) (s_iconst (z := 3) at_73 rfl) ?_
    refine EndsE.st (b := (75, _, _, [.inr (_, [_, _, _, _, _, _, _])], 1, 7)) (s_iastore at_74 rfl (by decide) (Nat.le_of_ble_eq_true rfl) rfl) ?_
    refine EndsE.st (b := (77, _, _, _, 1, 7)) (s_aload at_75 rfl rfl) ?_
    refine EndsE.st (b := (79, _, _, _, 1, 7)) (s_bipush (z := 6) at_77 (by decide)) ?_
    refine EndsE.st (b := (80, _, _, _, 1, 7)) (s_iconst (z := 1) at_79 rfl) ?_
    refine EndsE.st (b := (81, _, _, [.inr (_, [_, _, _, _, _, _, _])], 1, 7)) (s_iastore at_80 rfl (by decide) (Nat.le_of_ble_eq_true rfl) rfl) ?_
    refine EndsE.st (b := (84, _, _, [.inr (_, [_, _, _, _, _, _, _]), .inl (_, [_, _, _, _, _])], 2, 12)) (s_new (cid := 0) (j := 1) (vs := [.null, .null, .null, .int 0, .int 0]) (hw _ (List.mem_of_getElem? (i := 2) rfl)) (hw _ (List.mem_of_getElem? (i := 3) rfl)) (hw _ (List.mem_of_getElem? (i := 4) rfl)) (kok0 hw) ⟨⟨(.array .int), by decide, rfl⟩, ⟨⟨(.array .int), by decide, rfl⟩, ⟨⟨(.array .long), by decide, rfl⟩, ⟨⟨.int, by decide, rfl⟩, ⟨⟨.int, by decide, rfl⟩, trivial⟩⟩⟩⟩⟩ at_81 rfl (by decide) (by decide) rfl) ?_
    refine EndsE.st (b := (85, _, _, _, 2, 12)) (s_dup at_84 rfl) ?_
    refine EndsE.st (b := (87, _, _, _, 2, 12)) (s_aload at_85 rfl rfl) ?_
    refine EndsE.st (b := (89, _, _, _, 2, 12)) (s_iload at_87 rfl) ?_
    refine EndsE.st (b := (96, _, _, _, 2, 12)) (s_if_eq_t at_89 rfl (by decide) (by decide)) ?_
    refine EndsE.st (b := (98, _, _, _, 2, 12)) (s_bipush (z := 7) at_96 (by decide)) ?_
    refine EndsE.st (b := (101, _, [_], _, 5, 36)) (s_callI (W := 1) rfl (hw _ (List.mem_of_getElem? (i := 5) rfl)) (hw _ (List.mem_of_getElem? (i := 6) rfl)) (hw _ (List.mem_of_getElem? (i := 4) rfl)) (hw _ (List.mem_of_getElem? (i := 7) rfl)) (by decide) (lenOf pd1 rfl) at_98 (hM7) rfl rfl (by decide) (by decide) (by decide) (by decide)) ?_
    refine EndsE.st (b := (103, [_, _, _, _, _, _, _, _, _, _, _, _, _, _, _, _], _, _, 5, 36)) (s_astore at_101 rfl rfl) ?_
    refine EndsE.st (b := (104, _, _, _, 5, 36)) (s_iconst (z := 5) at_103 rfl) ?_
    refine EndsE.st (b := (106, _, _, [_, .inl (_, [_, _, _, _, _]), _, _, _, .inr (_, [_, _, _, _, _])], 6, 41)) (s_newarray (j := 5) (q := 5) (cap := 5) (hw _ (List.mem_of_getElem? (i := 15) rfl)) at_104 rfl (by decide) (by decide) (by decide) (by decide) (by decide) (by decide) rfl) ?_
    refine EndsE.st (b := (108, [_, _, _, _, _, _, _, _, _, _, _, _, _, _, _, _], _, _, 6, 41)) (s_astore at_106 rfl rfl) ?_
    refine EndsE.st (b := (110, _, _, _, 6, 41)) (s_aload at_108 rfl rfl) ?_
    refine EndsE.st (b := (111, _, _, _, 6, 41)) (s_iconst (z := 0) at_110 rfl) ?_
    refine EndsE.st (b := (113, _, _, _, 6, 41)) (s_lload at_111 rfl) ?_
    refine EndsE.st (b := (114, _, _, [_, .inl (_, [_, _, _, _, _]), _, _, _, .inr (_, [_, _, _, _, _])], 6, 41)) (s_lastore at_113 rfl (by decide) (Nat.le_of_ble_eq_true rfl) rfl) ?_
    refine EndsE.st (b := (116, _, _, _, 6, 41)) (s_aload at_114 rfl rfl) ?_
    refine EndsE.st (b := (117, _, _, _, 6, 41)) (s_iconst (z := 1) at_116 rfl) ?_
    refine EndsE.st (b := (119, _, _, _, 6, 41)) (s_lload at_117 rfl) ?_
    refine EndsE.st (b := (120, _, _, [_, .inl (_, [_, _, _, _, _]), _, _, _, .inr (_, [_, _, _, _, _])], 6, 41)) (s_lastore at_119 rfl (by decide) (Nat.le_of_ble_eq_true rfl) rfl) ?_
    refine EndsE.st (b := (122, _, _, _, 6, 41)) (s_aload at_120 rfl rfl) ?_
    refine EndsE.st (b := (123, _, _, _, 6, 41)) (s_iconst (z := 2) at_122 rfl) ?_
    refine EndsE.st (b := (125, _, _, _, 6, 41)) (s_lload at_123 rfl) ?_
    refine EndsE.st (b := (126, _, _, [_, .inl (_, [_, _, _, _, _]), _, _, _, .inr (_, [_, _, _, _, _])], 6, 41)) (s_lastore at_125 rfl (by decide) (Nat.le_of_ble_eq_true rfl) rfl) ?_
    refine EndsE.st (b := (128, _, _, _, 6, 41)) (s_aload at_126 rfl rfl) ?_
    refine EndsE.st (b := (129, _, _, _, 6, 41)) (s_iconst (z := 3) at_128 rfl) ?_
    refine EndsE.st (b := (131, _, _, _, 6, 41)) (s_lload at_129 rfl) ?_
    refine EndsE.st (b := (132, _, _, [_, .inl (_, [_, _, _, _, _]), _, _, _, .inr (_, [_, _, _, _, _])], 6, 41)) (s_lastore at_131 rfl (by decide) (Nat.le_of_ble_eq_true rfl) rfl) ?_
    refine EndsE.st (b := (134, _, _, _, 6, 41)) (s_aload at_132 rfl rfl) ?_
    refine EndsE.st (b := (135, _, _, _, 6, 41)) (s_iconst (z := 4) at_134 rfl) ?_
    refine EndsE.st (b := (137, _, _, _, 6, 41)) (s_lload at_135 rfl) ?_
    refine EndsE.st (b := (138, _, _, [_, .inl (_, [_, _, _, _, _]), _, _, _, .inr (_, [_, _, _, _, _])], 6, 41)) (s_lastore at_137 rfl (by decide) (Nat.le_of_ble_eq_true rfl) rfl) ?_
    refine EndsE.st (b := (140, _, _, _, 6, 41)) (s_aload at_138 rfl rfl) ?_
    refine EndsE.st (b := (142, _, _, _, 6, 41)) (s_iload at_140 rfl) ?_
    refine EndsE.st (b := (143, _, _, _, 6, 41)) (s_lloadN at_142 rfl) ?_
    refine EndsE.st (b := (144, _, _, [_, _, _, _, _, .inr (_, List.set [.long f, .long f, .long f, .long f, .long f] off (.long a))], 6, 41)) (s_lastore at_143 rfl (nneg_of (by omega)) (by rw [tnc_of (by omega)]; show off < 5; omega) (by rw [tnc_of (by omega)]; rfl)) ?_
    refine EndsE.st (b := (146, _, _, _, 6, 41)) (s_aload at_144 rfl rfl) ?_
    refine EndsE.st (b := (148, _, _, _, 6, 41)) (s_iload at_146 rfl) ?_
    refine EndsE.st (b := (149, _, _, _, 6, 41)) (s_iconst (z := 1) at_148 rfl) ?_
    refine EndsE.st (b := (150, _, _, _, 6, 41)) (s_iadd at_149) ?_
    refine EndsE.st (b := (151, _, _, _, 6, 41)) (s_lloadN at_150 rfl) ?_
    rw [show Int32.ofNat off + 1 = Int32.ofNat (off + 1) from of_add off 1]
    refine EndsE.st (b := (152, _, _, [_, _, _, _, _, .inr (_, List.set (List.set [.long f, .long f, .long f, .long f, .long f] off (.long a)) (off + 1) (.long b))], 6, 41)) (s_lastore at_151 rfl (nneg_of (by omega)) (by rw [tnc_of (by omega)]; simp only [List.length_set]; show off + 1 < 5; omega) (by rw [tnc_of (by omega)]; rfl)) ?_
    refine EndsE.st (b := (154, _, _, _, 6, 41)) (s_aload at_152 rfl rfl) ?_
    refine EndsE.st (b := (156, _, _, _, 6, 41)) (s_iload at_154 rfl) ?_
    refine EndsE.st (b := (157, _, _, _, 6, 41)) (s_iconst (z := 2) at_156 rfl) ?_
    refine EndsE.st (b := (158, _, _, _, 6, 41)) (s_iadd at_157) ?_
    refine EndsE.st (b := (160, _, _, _, 6, 41)) (s_lload at_158 rfl) ?_
    rw [show Int32.ofNat off + 2 = Int32.ofNat (off + 2) from of_add off 2]
    refine EndsE.st (b := (161, _, _, [_, _, _, _, _, .inr (_, wdl f off a b d)], 6, 41)) (s_lastore at_160 rfl (nneg_of (by omega)) (by rw [tnc_of (by omega)]; simp only [List.length_set]; show off + 2 < 5; omega) (by rw [tnc_of (by omega)]; rfl)) ?_
    exact tl0 hw a b d f sel off ho _ _ _ _ _ _ hD7 (wd_ok f a b d off ho) p hp
  · skip
    refine EndsE.st (b := (30, _, _, _, 0, 0)) (s_iconst (z := 1) at_29 rfl) ?_
    refine EndsE.st (b := (34, _, _, _, 0, 0)) (s_goto at_30 (by decide) (by decide)) ?_
    refine EndsE.st (b := (36, [_, _, _, _, _, _, _, _, _, _, _, _, _, _, _, _], _, _, 0, 0)) (s_istore at_34 rfl) ?_
    refine EndsE.st (b := (38, _, _, _, 0, 0)) (s_bipush (z := 7) at_36 (by decide)) ?_
    refine EndsE.st (b := (40, _, _, [.inr (_, [_, _, _, _, _, _, _])], 1, 7)) (s_newarray (j := 0) (q := 7) (cap := 7) (hw _ (List.mem_of_getElem? (i := 0) rfl)) at_38 rfl (by decide) (by decide) (by decide) (by decide) (by decide) (by decide) rfl) ?_
    refine EndsE.st (b := (42, [_, _, _, _, _, _, _, _, _, _, _, _, _, _, _, _], _, _, 1, 7)) (s_astore at_40 rfl rfl) ?_
    refine EndsE.st (b := (44, _, _, _, 1, 7)) (s_aload at_42 rfl rfl) ?_
    refine EndsE.st (b := (45, _, _, _, 1, 7)) (s_iconst (z := 0) at_44 rfl) ?_
    refine EndsE.st (b := (46, _, _, _, 1, 7)) (s_iconst (z := 5) at_45 rfl) ?_
    refine EndsE.st (b := (47, _, _, [.inr (_, [_, _, _, _, _, _, _])], 1, 7)) (s_iastore at_46 rfl (by decide) (Nat.le_of_ble_eq_true rfl) rfl) ?_
    refine EndsE.st (b := (49, _, _, _, 1, 7)) (s_aload at_47 rfl rfl) ?_
    refine EndsE.st (b := (50, _, _, _, 1, 7)) (s_iconst (z := 1) at_49 rfl) ?_
    refine EndsE.st (b := (51, _, _, _, 1, 7)) (s_iconst (z := 0) at_50 rfl) ?_
    refine EndsE.st (b := (52, _, _, [.inr (_, [_, _, _, _, _, _, _])], 1, 7)) (s_iastore at_51 rfl (by decide) (Nat.le_of_ble_eq_true rfl) rfl) ?_
    refine EndsE.st (b := (54, _, _, _, 1, 7)) (s_aload at_52 rfl rfl) ?_
    refine EndsE.st (b := (55, _, _, _, 1, 7)) (s_iconst (z := 2) at_54 rfl) ?_
    refine EndsE.st (b := (57, _, _, _, 1, 7)) (s_ldc (hw _ (List.mem_of_getElem? (i := 1) rfl)) at_55) ?_
    refine EndsE.st (b := (58, _, _, [.inr (_, [_, _, _, _, _, _, _])], 1, 7)) (s_iastore at_57 rfl (by decide) (Nat.le_of_ble_eq_true rfl) rfl) ?_
    refine EndsE.st (b := (60, _, _, _, 1, 7)) (s_aload at_58 rfl rfl) ?_
    refine EndsE.st (b := (61, _, _, _, 1, 7)) (s_iconst (z := 3) at_60 rfl) ?_
    refine EndsE.st (b := (63, _, _, _, 1, 7)) (s_ldc (hw _ (List.mem_of_getElem? (i := 1) rfl)) at_61) ?_
    refine EndsE.st (b := (64, _, _, [.inr (_, [_, _, _, _, _, _, _])], 1, 7)) (s_iastore at_63 rfl (by decide) (Nat.le_of_ble_eq_true rfl) rfl) ?_
    refine EndsE.st (b := (66, _, _, _, 1, 7)) (s_aload at_64 rfl rfl) ?_
    refine EndsE.st (b := (67, _, _, _, 1, 7)) (s_iconst (z := 4) at_66 rfl) ?_
    refine EndsE.st (b := (69, _, _, _, 1, 7)) (s_ldc (hw _ (List.mem_of_getElem? (i := 1) rfl)) at_67) ?_
    refine EndsE.st (b := (70, _, _, [.inr (_, [_, _, _, _, _, _, _])], 1, 7)) (s_iastore at_69 rfl (by decide) (Nat.le_of_ble_eq_true rfl) rfl) ?_
    refine EndsE.st (b := (72, _, _, _, 1, 7)) (s_aload at_70 rfl rfl) ?_
    refine EndsE.st (b := (73, _, _, _, 1, 7)) (s_iconst (z := 5) at_72 rfl) ?_
    refine EndsE.st (b := (74, _, _, _, 1, 7)) (s_iconst (z := 3) at_73 rfl) ?_
    refine EndsE.st (b := (75, _, _, [.inr (_, [_, _, _, _, _, _, _])], 1, 7)) (s_iastore at_74 rfl (by decide) (Nat.le_of_ble_eq_true rfl) rfl) ?_
    refine EndsE.st (b := (77, _, _, _, 1, 7)) (s_aload at_75 rfl rfl) ?_
    refine EndsE.st (b := (79, _, _, _, 1, 7)) (s_bipush (z := 6) at_77 (by decide)) ?_
    refine EndsE.st (b := (80, _, _, _, 1, 7)) (s_iconst (z := 1) at_79 rfl) ?_
    refine EndsE.st (b := (81, _, _, [.inr (_, [_, _, _, _, _, _, _])], 1, 7)) (s_iastore at_80 rfl (by decide) (Nat.le_of_ble_eq_true rfl) rfl) ?_
    refine EndsE.st (b := (84, _, _, [.inr (_, [_, _, _, _, _, _, _]), .inl (_, [_, _, _, _, _])], 2, 12)) (s_new (cid := 0) (j := 1) (vs := [.null, .null, .null, .int 0, .int 0]) (hw _ (List.mem_of_getElem? (i := 2) rfl)) (hw _ (List.mem_of_getElem? (i := 3) rfl)) (hw _ (List.mem_of_getElem? (i := 4) rfl)) (kok0 hw) ⟨⟨(.array .int), by decide, rfl⟩, ⟨⟨(.array .int), by decide, rfl⟩, ⟨⟨(.array .long), by decide, rfl⟩, ⟨⟨.int, by decide, rfl⟩, ⟨⟨.int, by decide, rfl⟩, trivial⟩⟩⟩⟩⟩ at_81 rfl (by decide) (by decide) rfl) ?_
    refine EndsE.st (b := (85, _, _, _, 2, 12)) (s_dup at_84 rfl) ?_
    refine EndsE.st (b := (87, _, _, _, 2, 12)) (s_aload at_85 rfl rfl) ?_
    refine EndsE.st (b := (89, _, _, _, 2, 12)) (s_iload at_87 rfl) ?_
    refine EndsE.st (b := (92, _, _, _, 2, 12)) (s_if_eq_f at_89 (by decide)) ?_
    refine EndsE.st (b := (93, _, _, _, 2, 12)) (s_iconst (z := 5) at_92 rfl) ?_
    refine EndsE.st (b := (98, _, _, _, 2, 12)) (s_goto at_93 (by decide) (by decide)) ?_
    refine EndsE.st (b := (101, _, [_], _, 5, 36)) (s_callI (W := 1) rfl (hw _ (List.mem_of_getElem? (i := 5) rfl)) (hw _ (List.mem_of_getElem? (i := 6) rfl)) (hw _ (List.mem_of_getElem? (i := 4) rfl)) (hw _ (List.mem_of_getElem? (i := 7) rfl)) (by decide) (lenOf pd1 rfl) at_98 (hM5) rfl rfl (by decide) (by decide) (by decide) (by decide)) ?_
    refine EndsE.st (b := (103, [_, _, _, _, _, _, _, _, _, _, _, _, _, _, _, _], _, _, 5, 36)) (s_astore at_101 rfl rfl) ?_
    refine EndsE.st (b := (104, _, _, _, 5, 36)) (s_iconst (z := 5) at_103 rfl) ?_
    refine EndsE.st (b := (106, _, _, [_, .inl (_, [_, _, _, _, _]), _, _, _, .inr (_, [_, _, _, _, _])], 6, 41)) (s_newarray (j := 5) (q := 5) (cap := 5) (hw _ (List.mem_of_getElem? (i := 15) rfl)) at_104 rfl (by decide) (by decide) (by decide) (by decide) (by decide) (by decide) rfl) ?_
    refine EndsE.st (b := (108, [_, _, _, _, _, _, _, _, _, _, _, _, _, _, _, _], _, _, 6, 41)) (s_astore at_106 rfl rfl) ?_
    refine EndsE.st (b := (110, _, _, _, 6, 41)) (s_aload at_108 rfl rfl) ?_
    refine EndsE.st (b := (111, _, _, _, 6, 41)) (s_iconst (z := 0) at_110 rfl) ?_
    refine EndsE.st (b := (113, _, _, _, 6, 41)) (s_lload at_111 rfl) ?_
    refine EndsE.st (b := (114, _, _, [_, .inl (_, [_, _, _, _, _]), _, _, _, .inr (_, [_, _, _, _, _])], 6, 41)) (s_lastore at_113 rfl (by decide) (Nat.le_of_ble_eq_true rfl) rfl) ?_
    refine EndsE.st (b := (116, _, _, _, 6, 41)) (s_aload at_114 rfl rfl) ?_
    refine EndsE.st (b := (117, _, _, _, 6, 41)) (s_iconst (z := 1) at_116 rfl) ?_
    refine EndsE.st (b := (119, _, _, _, 6, 41)) (s_lload at_117 rfl) ?_
    refine EndsE.st (b := (120, _, _, [_, .inl (_, [_, _, _, _, _]), _, _, _, .inr (_, [_, _, _, _, _])], 6, 41)) (s_lastore at_119 rfl (by decide) (Nat.le_of_ble_eq_true rfl) rfl) ?_
    refine EndsE.st (b := (122, _, _, _, 6, 41)) (s_aload at_120 rfl rfl) ?_
    refine EndsE.st (b := (123, _, _, _, 6, 41)) (s_iconst (z := 2) at_122 rfl) ?_
    refine EndsE.st (b := (125, _, _, _, 6, 41)) (s_lload at_123 rfl) ?_
    refine EndsE.st (b := (126, _, _, [_, .inl (_, [_, _, _, _, _]), _, _, _, .inr (_, [_, _, _, _, _])], 6, 41)) (s_lastore at_125 rfl (by decide) (Nat.le_of_ble_eq_true rfl) rfl) ?_
    refine EndsE.st (b := (128, _, _, _, 6, 41)) (s_aload at_126 rfl rfl) ?_
    refine EndsE.st (b := (129, _, _, _, 6, 41)) (s_iconst (z := 3) at_128 rfl) ?_
    refine EndsE.st (b := (131, _, _, _, 6, 41)) (s_lload at_129 rfl) ?_
    refine EndsE.st (b := (132, _, _, [_, .inl (_, [_, _, _, _, _]), _, _, _, .inr (_, [_, _, _, _, _])], 6, 41)) (s_lastore at_131 rfl (by decide) (Nat.le_of_ble_eq_true rfl) rfl) ?_
    refine EndsE.st (b := (134, _, _, _, 6, 41)) (s_aload at_132 rfl rfl) ?_
    refine EndsE.st (b := (135, _, _, _, 6, 41)) (s_iconst (z := 4) at_134 rfl) ?_
    refine EndsE.st (b := (137, _, _, _, 6, 41)) (s_lload at_135 rfl) ?_
    refine EndsE.st (b := (138, _, _, [_, .inl (_, [_, _, _, _, _]), _, _, _, .inr (_, [_, _, _, _, _])], 6, 41)) (s_lastore at_137 rfl (by decide) (Nat.le_of_ble_eq_true rfl) rfl) ?_
    refine EndsE.st (b := (140, _, _, _, 6, 41)) (s_aload at_138 rfl rfl) ?_
    refine EndsE.st (b := (142, _, _, _, 6, 41)) (s_iload at_140 rfl) ?_
    refine EndsE.st (b := (143, _, _, _, 6, 41)) (s_lloadN at_142 rfl) ?_
    refine EndsE.st (b := (144, _, _, [_, _, _, _, _, .inr (_, List.set [.long f, .long f, .long f, .long f, .long f] off (.long a))], 6, 41)) (s_lastore at_143 rfl (nneg_of (by omega)) (by rw [tnc_of (by omega)]; show off < 5; omega) (by rw [tnc_of (by omega)]; rfl)) ?_
    refine EndsE.st (b := (146, _, _, _, 6, 41)) (s_aload at_144 rfl rfl) ?_
    refine EndsE.st (b := (148, _, _, _, 6, 41)) (s_iload at_146 rfl) ?_
    refine EndsE.st (b := (149, _, _, _, 6, 41)) (s_iconst (z := 1) at_148 rfl) ?_
    refine EndsE.st (b := (150, _, _, _, 6, 41)) (s_iadd at_149) ?_
    refine EndsE.st (b := (151, _, _, _, 6, 41)) (s_lloadN at_150 rfl) ?_
    rw [show Int32.ofNat off + 1 = Int32.ofNat (off + 1) from of_add off 1]
    refine EndsE.st (b := (152, _, _, [_, _, _, _, _, .inr (_, List.set (List.set [.long f, .long f, .long f, .long f, .long f] off (.long a)) (off + 1) (.long b))], 6, 41)) (s_lastore at_151 rfl (nneg_of (by omega)) (by rw [tnc_of (by omega)]; simp only [List.length_set]; show off + 1 < 5; omega) (by rw [tnc_of (by omega)]; rfl)) ?_
    refine EndsE.st (b := (154, _, _, _, 6, 41)) (s_aload at_152 rfl rfl) ?_
    refine EndsE.st (b := (156, _, _, _, 6, 41)) (s_iload at_154 rfl) ?_
    refine EndsE.st (b := (157, _, _, _, 6, 41)) (s_iconst (z := 2) at_156 rfl) ?_
    refine EndsE.st (b := (158, _, _, _, 6, 41)) (s_iadd at_157) ?_
    refine EndsE.st (b := (160, _, _, _, 6, 41)) (s_lload at_158 rfl) ?_
    rw [show Int32.ofNat off + 2 = Int32.ofNat (off + 2) from of_add off 2]
    refine EndsE.st (b := (161, _, _, [_, _, _, _, _, .inr (_, wdl f off a b d)], 6, 41)) (s_lastore at_160 rfl (nneg_of (by omega)) (by rw [tnc_of (by omega)]; simp only [List.length_set]; show off + 2 < 5; omega) (by rw [tnc_of (by omega)]; rfl)) ?_
    exact tl1 hw a b d f sel off ho _ _ _ _ _ _ hD5 (wd_ok f a b d off ho) p hp
set_option maxRecDepth 65536 in
set_option maxHeartbeats 40000000 in
theorem comes_1 {Post : Tables → Env → Array Value → State → Outcome → State → Prop} (hpost : ∀ tb e args s v u, (limb_1_1.after args s (.returned v) u = true ∧ limb_1_2.after args s (.returned v) u = true ∧ True) → FrameEnd s (.returned v) u (Jvm.fieldLocs frame_1_writes args s ++ Jvm.arrayLocs frame_1_arrays args s ++ Jvm.staticLocs frame_1_statics s) 24 192 → Post tb e args s (.returned v) u) :
    ArmFor flags0 classFile x code maxLocals ret World_1 tables_1 room_1 Calls_1 rest_1 Pre_1 Post := by
  intro l hfl _ _ p e ha hc hk s m args below hf hA hF happ hP
  obtain ⟨hcalls, hrest, hpre⟩ := hP
  obtain ⟨-, -, -, hnamed, -, -, -, hat⟩ := (Spec.applies_iff hf).mp happ
  obtain ⟨hg, hn⟩ := and_e (Cond.before_iff.mp (show (Jvm.Cond.and given_1 narrow_1).before args s = true from hpre))
  obtain ⟨g0, gg1⟩ := and_e hg
  obtain ⟨g1, gg2⟩ := and_e gg1
  obtain ⟨g2, gg3⟩ := and_e gg2
  obtain ⟨g3, gg4⟩ := and_e gg3
  obtain ⟨g4, gg5⟩ := and_e gg4
  obtain ⟨w0, w1, w2, w3, w4, rfl⟩ : ∃ w0 w1 w2 w3 w4 : Value, args = #[w0, w1, w2, w3, w4] := by
    have hs : args.size = 5 := by simpa [Cond.value, given_1] using g0
    obtain ⟨L⟩ := args
    match L, hs with
    | [w0, w1, w2, w3, w4], _ => exact ⟨w0, w1, w2, w3, w4, rfl⟩
  have hw := fun d (hd : d ∈ tables_1) => atoms_spec (ws := Jvm.Cond.code x code maxLocals ret :: tables_1) hat d (List.mem_cons_of_mem _ hd)
  obtain ⟨i0, ei0⟩ := isL_v g1
  obtain rfl : w0 = (.long i0) := Option.some.inj ei0
  obtain ⟨i1, ei1⟩ := isL_v g2
  obtain rfl : w1 = (.long i1) := Option.some.inj ei1
  obtain ⟨i2, ei2⟩ := isL_v g3
  obtain rfl : w2 = (.long i2) := Option.some.inj ei2
  obtain ⟨i3, ei3⟩ := isL_v g4
  obtain rfl : w3 = (.long i3) := Option.some.inj ei3
  obtain ⟨i4, ei4⟩ := is_v gg5
  obtain rfl : w4 = (.int i4) := Option.some.inj ei4
  obtain ⟨A2, hM⟩ := law_ok (l := l) hw (ρ := (fun k => s.heap.size + k, fun _ => 0)) i0 i1 i2 i3 i4
  obtain ⟨n, o, h1, h2, h3, v', L, rfl, ⟨rfl, N, -⟩, hq⟩ := hM s.heap ⟨⟨rfl, fun k _ => rfl, fun j k h => Nat.add_lt_add_left h _⟩, fun k c h => by simp at h⟩ p e ha hc hk s m _ below hf ((Spec.applies_iff_loose hf).mp happ).1 ⟨rfl, State.Warmed39.refl s, rfl⟩ trivial
  refine ⟨n, _, h1, h2, h3, hpost _ _ _ _ _ _ ⟨Cond.after_iff.mpr rfl, Cond.after_iff.mpr (eq_i res_at (Term.int_eval (1)) rfl), trivial⟩ ⟨hq.1, hq.2.1, (hq.2.2.sift fun y hy => Or.inr (N y hy)).mono (by decide) (by decide)⟩⟩
theorem main_1_1 : Claimed_1_1 := comes_1 fun _ _ _ _ _ _ h hF => ⟨h.1, hF⟩
theorem main_1_2 : Claimed_1_2 := comes_1 fun _ _ _ _ _ _ h hF => ⟨h.2.1, hF⟩
end Jvm.Pilot.@@N@@
namespace Jvm.Pilot.@@N@@
open Jvm Jvm.ClassFile Sem Op Lib Jvm.Free Jvm.Stand Jvm.Pilot.@@N@@.Jvm.D
/-! MADE BY PROGRAM (witnessworld.py) out of the Statement's table words and the real class files: 16 classes; the members and pool entries that the words name. The judged class is class 1, her method 1. -/
namespace start1
open Jvm.ClassFile
def u (s : String) : CpInfo := .utf8 (stringToUtf16 s)
/-- a pool by its gaps: so many unusable entries, then the entry; so many at the end -/
def gap : Nat → List CpInfo → List CpInfo
  | 0, r => r
  | n + 1, r => .unusable :: gap n r
def poolList (es : List (Nat × CpInfo)) (last : Nat) : List CpInfo := es.foldr (fun e r => gap e.1 (e.2 :: r)) (gap last [])
def pool (es : List (Nat × CpInfo)) (last : Nat) : Array CpInfo := ⟨poolList es last⟩
def fileOf (pool : Array CpInfo) (this : Nat) (attrs : Array Attribute := #[]) (ms : Array MethodInfo := #[]) (fl : Nat := 33) (sup : Nat := 0) (ifs : Array Nat := #[]) (fds : Array FieldInfo := #[]) : ClassFile where
  minorVersion := 0
  majorVersion := 65
  constantPool := pool
  accessFlags := fl
  thisClass := this
  superClass := sup
  interfaces := ifs
  fields := fds
  methods := ms
  attributes := attrs
def plain (name : String) (sup : Option ClassId) : Class where
  name := name
  kind := .ordinary
  loader := none
  accessFlags := 33
  super := sup
  interfaces := #[]
  cf := none
  fields := #[]
  methods := #[]
  instanceTypes := #[]
  staticTypes := #[]
  resolved := #[]
  callSites := []
  init := .initialized
  statics := none
  mirror := none

def pool0 : Array CpInfo := pool [(5, u "<init>"), (0, u "()V"), (1, .class_ 10), (1, u "java/lang/Object")] 113

def k0c0 : Code := { maxStack := 0, maxLocals := 1, code := object_method_1_code, exceptionTable := #[], attributes := #[] }
def k0m0 : Method := { name := "<init>", desc := "()V", sig := { parameters := [], returnType := none }, accessFlags := 1, code := some k0c0 }
/-- java/lang/Object -/
def k0 : Class := { plain "java/lang/Object" none with
  accessFlags := 33
  interfaces := #[]
  cf := some (fileOf pool0 8 #[] #[{ accessFlags := 1, nameIndex := 5, descriptorIndex := 6, attributes := #[] }] 33 0 #[] #[])
  fields := #[]
  methods := #[k0m0]
  instanceTypes := #[]
  staticTypes := #[]
  resolved := Array.replicate 124 none
  statics := none }

def pool1 : Array CpInfo := pool [(2, .class_ 4), (1, u "java/lang/Object"), (0, u "<init>"), (0, u "()V"), (0, .integer 2147483647), (0, .class_ 9), (0, u "com/example/linearis/linearis/bundled/Layout"), (0, .methodref 8 11), (0, .nameAndType 5 12), (0, u "([II)V"), (0, .methodref 8 14), (0, .nameAndType 15 16), (0, u "get"), (0, u "([JII)I"), (0, .methodref 18 19), (0, .class_ 20), (0, .nameAndType 21 22), (0, u "com/example/linearis/linearis/bundled/LayoutGetPinLaw"), (0, u "expected"), (0, u "(JJJIZ)I"), (0, .long 7), (1, .long 2147483647), (1, .long 3), (3, u "law"), (0, u "(JJJJI)Z")] 7

def k1m0 : Method := { name := "<init>", desc := "()V", sig := { parameters := [], returnType := none }, accessFlags := 1, code := none }
def k1c1 : Code := { maxStack := 9, maxLocals := 16, code := code, exceptionTable := #[], attributes := #[] }
def k1m1 : Method := { name := "law", desc := "(JJJJI)Z", sig := { parameters := [.long, .long, .long, .long, .int], returnType := some .boolean }, accessFlags := 9, code := some k1c1 }
def k1c2 : Code := { maxStack := 4, maxLocals := 8, code := method_3_code, exceptionTable := #[], attributes := #[] }
def k1m2 : Method := { name := "expected", desc := "(JJJIZ)I", sig := { parameters := [.long, .long, .long, .int, .boolean], returnType := some .int }, accessFlags := 10, code := some k1c2 }
/-- com/example/linearis/linearis/bundled/LayoutGetPinLaw -/
def k1 : Class := { plain "com/example/linearis/linearis/bundled/LayoutGetPinLaw" (some 0) with
  accessFlags := 49
  interfaces := #[]
  cf := some (fileOf pool1 18 #[] #[{ accessFlags := 1, nameIndex := 5, descriptorIndex := 6, attributes := #[] }, { accessFlags := 9, nameIndex := 31, descriptorIndex := 32, attributes := #[] }, { accessFlags := 10, nameIndex := 21, descriptorIndex := 22, attributes := #[] }] 49 2 #[] #[])
  fields := #[]
  methods := #[k1m0, k1m1, k1m2]
  instanceTypes := #[]
  staticTypes := #[]
  resolved := Array.replicate 40 none
  statics := none }

def pool2 : Array CpInfo := pool [(1, .methodref 2 3), (0, .class_ 4), (0, .nameAndType 5 6), (0, u "java/lang/Object"), (0, u "<init>"), (0, u "()V"), (9, .fieldref 17 18), (0, .class_ 19), (0, .nameAndType 20 21), (0, u "com/example/linearis/linearis/bundled/Layout"), (0, u "word"), (0, u "[I"), (0, .fieldref 17 23), (0, .nameAndType 24 21), (0, u "shift"), (0, .fieldref 17 26), (0, .nameAndType 27 28), (0, u "mask"), (0, u "[J"), (1, .class_ 31), (0, u "java/lang/Integer"), (0, .methodref 30 33), (0, .nameAndType 34 35), (0, u "numberOfLeadingZeros"), (0, u "(I)I"), (2, .fieldref 17 39), (0, .nameAndType 40 41), (0, u "words"), (0, u "I"), (0, .fieldref 17 43), (0, .nameAndType 44 41), (0, u "compared"), (2, u "([II)V"), (5, u "get"), (0, u "([JII)I")] 21

def k2c0 : Code := { maxStack := 6, maxLocals := 7, code := prog_32_method_1_code, exceptionTable := #[], attributes := #[] }
def k2m0 : Method := { name := "<init>", desc := "([II)V", sig := { parameters := [(.array .int), .int], returnType := none }, accessFlags := 0, code := some k2c0 }
def k2c1 : Code := { maxStack := 4, maxLocals := 4, code := prog_32_method_6_code, exceptionTable := #[], attributes := #[] }
def k2m1 : Method := { name := "get", desc := "([JII)I", sig := { parameters := [(.array .long), .int, .int], returnType := some .int }, accessFlags := 0, code := some k2c1 }
/-- com/example/linearis/linearis/bundled/Layout -/
def k2 : Class := { plain "com/example/linearis/linearis/bundled/Layout" (some 0) with
  accessFlags := 48
  interfaces := #[]
  cf := some (fileOf pool2 17 #[] #[{ accessFlags := 0, nameIndex := 5, descriptorIndex := 47, attributes := #[] }, { accessFlags := 0, nameIndex := 53, descriptorIndex := 54, attributes := #[] }] 48 2 #[] #[{ accessFlags := 18, nameIndex := 20, descriptorIndex := 21, attributes := #[] }, { accessFlags := 18, nameIndex := 24, descriptorIndex := 21, attributes := #[] }, { accessFlags := 18, nameIndex := 27, descriptorIndex := 28, attributes := #[] }, { accessFlags := 18, nameIndex := 40, descriptorIndex := 41, attributes := #[] }, { accessFlags := 18, nameIndex := 44, descriptorIndex := 41, attributes := #[] }])
  fields := #[{ name := "word", type := (.array .int), accessFlags := 18, slot := 0, constantValue := 0 }, { name := "shift", type := (.array .int), accessFlags := 18, slot := 1, constantValue := 0 }, { name := "mask", type := (.array .long), accessFlags := 18, slot := 2, constantValue := 0 }, { name := "words", type := .int, accessFlags := 18, slot := 3, constantValue := 0 }, { name := "compared", type := .int, accessFlags := 18, slot := 4, constantValue := 0 }]
  methods := #[k2m0, k2m1]
  instanceTypes := #[(.array .int), (.array .int), (.array .long), .int, .int]
  staticTypes := #[]
  resolved := Array.replicate 76 none
  statics := none }

def pool3 : Array CpInfo := pool [(1, .class_ 2), (0, u "java/io/Serializable"), (0, .class_ 4), (0, u "java/lang/Object")] 2

/-- java/io/Serializable -/
def k3 : Class := { plain "java/io/Serializable" (some 0) with
  accessFlags := 1537
  interfaces := #[]
  cf := some (fileOf pool3 1 #[] #[] 1537 3 #[] #[])
  fields := #[]
  methods := #[]
  instanceTypes := #[]
  staticTypes := #[]
  resolved := Array.replicate 7 none
  statics := none }

def pool4 : Array CpInfo := pool [(2, .class_ 4), (1, u "java/lang/Object"), (0, u "<init>"), (0, u "()V"), (1, .class_ 10), (1, u "java/lang/Number"), (2, .class_ 14), (0, u "java/io/Serializable"), (0, u "serialVersionUID"), (0, u "J")] 20

def k4m0 : Method := { name := "<init>", desc := "()V", sig := { parameters := [], returnType := none }, accessFlags := 1, code := none }
/-- java/lang/Number -/
def k4 : Class := { plain "java/lang/Number" (some 0) with
  accessFlags := 1057
  interfaces := #[3]
  cf := some (fileOf pool4 8 #[] #[{ accessFlags := 1, nameIndex := 5, descriptorIndex := 6, attributes := #[] }] 1057 2 #[13] #[{ accessFlags := 26, nameIndex := 15, descriptorIndex := 16, attributes := #[] }])
  fields := #[{ name := "serialVersionUID", type := .long, accessFlags := 26, slot := 0, constantValue := 0 }]
  methods := #[k4m0]
  instanceTypes := #[]
  staticTypes := #[.long]
  resolved := Array.replicate 37 none
  statics := none }

def pool5 : Array CpInfo := pool [(1, .class_ 2), (0, u "java/lang/Comparable"), (0, .class_ 4), (0, u "java/lang/Object")] 7

/-- java/lang/Comparable -/
def k5 : Class := { plain "java/lang/Comparable" (some 0) with
  accessFlags := 1537
  interfaces := #[]
  cf := some (fileOf pool5 1 #[] #[] 1537 3 #[] #[])
  fields := #[]
  methods := #[]
  instanceTypes := #[]
  staticTypes := #[]
  resolved := Array.replicate 12 none
  statics := none }

def pool6 : Array CpInfo := pool [(1, .class_ 2), (0, u "java/lang/constant/Constable"), (0, .class_ 4), (0, u "java/lang/Object")] 6

/-- java/lang/constant/Constable -/
def k6 : Class := { plain "java/lang/constant/Constable" (some 0) with
  accessFlags := 1537
  interfaces := #[]
  cf := some (fileOf pool6 1 #[] #[] 1537 3 #[] #[])
  fields := #[]
  methods := #[]
  instanceTypes := #[]
  staticTypes := #[]
  resolved := Array.replicate 11 none
  statics := none }

def pool7 : Array CpInfo := pool [(1, .class_ 2), (0, u "java/lang/constant/ConstantDesc"), (0, .class_ 4), (0, u "java/lang/Object")] 32

/-- java/lang/constant/ConstantDesc -/
def k7 : Class := { plain "java/lang/constant/ConstantDesc" (some 0) with
  accessFlags := 1537
  interfaces := #[]
  cf := some (fileOf pool7 1 #[] #[] 1537 3 #[] #[])
  fields := #[]
  methods := #[]
  instanceTypes := #[]
  staticTypes := #[]
  resolved := Array.replicate 37 none
  statics := none }

def pool8 : Array CpInfo := pool [(1, .class_ 2), (0, u "java/lang/Integer"), (16, u "digits"), (0, u "[C"), (32, u "numberOfLeadingZeros"), (0, u "(I)I"), (30, u "DigitOnes"), (0, u "[B"), (2, u "DigitTens"), (99, .class_ 190), (0, u "java/lang/Integer$IntegerCache"), (3, u "I"), (8, .class_ 204), (0, u "java/lang/Number"), (2, u "value"), (56, .integer 65536), (37, u "TYPE"), (0, u "Ljava/lang/Class;"), (0, .class_ 305), (0, u "java/lang/Comparable"), (0, .class_ 307), (0, u "java/lang/constant/Constable"), (0, .class_ 309), (0, u "java/lang/constant/ConstantDesc"), (0, u "MIN_VALUE"), (1, u "MAX_VALUE"), (3, u "SIZE"), (1, u "BYTES"), (1, u "serialVersionUID"), (0, u "J")] 131

def k8c0 : Code := { maxStack := 3, maxLocals := 2, code := jdk_33_method_47_code, exceptionTable := #[], attributes := #[] }
def k8m0 : Method := { name := "numberOfLeadingZeros", desc := "(I)I", sig := { parameters := [.int], returnType := some .int }, accessFlags := 9, code := some k8c0 }
/-- java/lang/Integer -/
def k8 : Class := { plain "java/lang/Integer" (some 4) with
  accessFlags := 49
  interfaces := #[5, 6, 7]
  cf := some (fileOf pool8 1 #[.nestMembers #[189]] #[{ accessFlags := 9, nameIndex := 53, descriptorIndex := 54, attributes := #[] }] 49 203 #[304, 306, 308] #[{ accessFlags := 25, nameIndex := 310, descriptorIndex := 194, attributes := #[] }, { accessFlags := 25, nameIndex := 312, descriptorIndex := 194, attributes := #[] }, { accessFlags := 25, nameIndex := 302, descriptorIndex := 303, attributes := #[] }, { accessFlags := 24, nameIndex := 19, descriptorIndex := 20, attributes := #[] }, { accessFlags := 24, nameIndex := 89, descriptorIndex := 86, attributes := #[] }, { accessFlags := 24, nameIndex := 85, descriptorIndex := 86, attributes := #[] }, { accessFlags := 18, nameIndex := 207, descriptorIndex := 194, attributes := #[] }, { accessFlags := 25, nameIndex := 316, descriptorIndex := 194, attributes := #[] }, { accessFlags := 25, nameIndex := 318, descriptorIndex := 194, attributes := #[] }, { accessFlags := 26, nameIndex := 320, descriptorIndex := 321, attributes := #[] }])
  fields := #[{ name := "MIN_VALUE", type := .int, accessFlags := 25, slot := 0, constantValue := 0 }, { name := "MAX_VALUE", type := .int, accessFlags := 25, slot := 1, constantValue := 0 }, { name := "TYPE", type := (.object "java/lang/Class"), accessFlags := 25, slot := 2, constantValue := 0 }, { name := "digits", type := (.array .char), accessFlags := 24, slot := 3, constantValue := 0 }, { name := "DigitTens", type := (.array .byte), accessFlags := 24, slot := 4, constantValue := 0 }, { name := "DigitOnes", type := (.array .byte), accessFlags := 24, slot := 5, constantValue := 0 }, { name := "value", type := .int, accessFlags := 18, slot := 0, constantValue := 0 }, { name := "SIZE", type := .int, accessFlags := 25, slot := 6, constantValue := 0 }, { name := "BYTES", type := .int, accessFlags := 25, slot := 7, constantValue := 0 }, { name := "serialVersionUID", type := .long, accessFlags := 26, slot := 8, constantValue := 0 }]
  methods := #[k8m0]
  instanceTypes := #[.int]
  staticTypes := #[.int, .int, (.object "java/lang/Class"), (.array .char), (.array .byte), (.array .byte), .int, .int, .long]
  resolved := Array.replicate 453 none
  statics := none }

def pool9 : Array CpInfo := pool [(1, u "java/lang/Cloneable"), (0, .class_ 1), (0, u "java/lang/Object"), (0, .class_ 3)] 3

/-- java/lang/Cloneable -/
def k9 : Class := { plain "java/lang/Cloneable" (some 0) with
  accessFlags := 1537
  interfaces := #[]
  cf := some (fileOf pool9 2 #[] #[] 1537 4 #[] #[])
  fields := #[]
  methods := #[]
  instanceTypes := #[]
  staticTypes := #[]
  resolved := Array.replicate 8 none
  statics := none }

/-- the primitive byte -/
def k10 : Class := { plain "byte" none with kind := .primitive 'B', accessFlags := 0x411 }
/-- [B -/
def k11 : Class := { plain "[B" (some 0) with kind := .array 10 .byte, interfaces := #[9, 3], accessFlags := 1041 }

/-- the primitive int -/
def k12 : Class := { plain "int" none with kind := .primitive 'I', accessFlags := 0x411 }
/-- [I -/
def k13 : Class := { plain "[I" (some 0) with kind := .array 12 .int, interfaces := #[9, 3], accessFlags := 1041 }

/-- the primitive long -/
def k14 : Class := { plain "long" none with kind := .primitive 'J', accessFlags := 0x411 }
/-- [J -/
def k15 : Class := { plain "[J" (some 0) with kind := .array 14 .long, interfaces := #[9, 3], accessFlags := 1041 }

def heap : Heap := #[]
def classes : Array Class := #[k0, k1, k2, k3, k4, k5, k6, k7, k8, k9, k10, k11, k12, k13, k14, k15]
def interned : List (Array UInt16 × Addr) := []
def slotsUsed : Nat := 0
def theMethod : MethodId := ⟨1, 1⟩
def args0 : Array Value := #[.long 70, .long 3, .long 5, .long 4, .int 37]
def aboutOver (below : List Frame) : State where
  vm := { classes := classes, interned := interned.toArray }
  heap := heap
  slotsUsed := slotsUsed
  threads := #[{ frames := .invoking theMethod args0 :: below }]
def below0 : List Frame := [.native { method := ⟨0, 0⟩, args := #[] }]
def about1 : State := aboutOver below0
def p0 : Program := .bare "" "" ""
def e0 : Env := launch0.env 0 0 0
theorem w_frames : about1.frames = Frame.invoking theMethod args0 :: below0 := rfl
set_option maxRecDepth 65536 in
theorem w_args : argsFit about1.vm theMethod args0 = true := by decide +kernel
set_option maxRecDepth 65536 in
theorem w_heap : heapFits about1 = true := by decide +kernel
set_option maxRecDepth 65536 in
theorem w_runnable : about1.curStatus? = some .runnable := by decide +kernel
set_option maxRecDepth 65536 in
theorem w_alone : about1.alone = true := by decide +kernel
set_option maxRecDepth 65536 in
theorem w_named : about1.methodNamed? x = some theMethod := by decide +kernel
set_option maxRecDepth 65536 in
theorem w_hears : about1.hears theMethod below0 = true := by decide +kernel
set_option maxRecDepth 65536 in
theorem w_ripe : about1.ripe theMethod args0 below0 = true := by decide +kernel
theorem w_running : about1.status = .running := rfl
set_option maxRecDepth 65536 in
theorem w_room : about1.hasRoom e0.platform room_1 = true :=
  launch0.hasRoom_least _ room_1 (by decide +kernel) (by decide +kernel) (by decide +kernel) (by decide +kernel) (by decide +kernel) (by decide +kernel)
theorem allAtoms_all (ts : List Jvm.Cond) (a : Array Jvm.Value) (st : Jvm.State) : (allAtoms ts).before a st = ts.all (fun c => c.before a st) := by
  induction ts with
  | nil => rfl
  | cons c t ih =>
    show (Jvm.Cond.and c (allAtoms t)).before a st = _
    rw [Jvm.Cond.before_and, ih, List.all_cons]
def words1 : List Jvm.Cond := Jvm.Cond.code x code maxLocals ret :: tables_1
/-- a 'code' word, met by the world's own term for the bytes: nothing is compared byte by byte -/
theorem code_word {y : MethodName} {bytes : ByteArray} {mx : Nat} {rt : Option FieldType} {a : Array Value} {s : State} {m : MethodId} {meth : Method} {c : Code} (h1 : s.methodNamed? y = some m) (h2 : s.vm.method? m = some meth) (h3 : meth.code = some c) (h4 : c.code = bytes)
    (h5 : (c.maxLocals == mx && c.exceptionTable.isEmpty && decide (c.maxStack ≤ mostOperands) && decide (meth.sig.returnType = rt) && !meth.locks && decide (parseMethodDescriptor y.desc = some meth.sig)) = true) : (Jvm.Cond.code y bytes mx rt).before a s = true := by
  simp only [Bool.and_eq_true, beq_iff_eq, Bool.not_eq_true', decide_eq_true_eq] at h5
  obtain ⟨⟨⟨⟨⟨g1, g2⟩, g3⟩, g4⟩, g5⟩, g6⟩ := h5
  simp [Cond.before, Cond.holds, Cond.value, h1, h2, h3, h4, g1, g2, g3, g4, g5, g6]
def isCode : Jvm.Cond → Bool
  | .code _ _ _ _ => true
  | _ => false
theorem all_split {L : List Jvm.Cond} {P : Jvm.Cond → Bool} (h1 : L.all (fun c => isCode c || P c) = true) (h2 : ∀ c ∈ L.filter isCode, P c = true) : L.all P = true := by
  refine List.all_eq_true.mpr fun c hc => ?_
  have h := List.all_eq_true.mp h1 c hc
  rcases Bool.eq_false_or_eq_true (isCode c) with hi | hi
  · exact h2 c (List.mem_filter.mpr ⟨hc, hi⟩)
  · simpa [hi] using h
set_option maxRecDepth 65536 in
theorem w_c0 : (Jvm.Cond.code x code maxLocals ret).before args0 about1 = true := code_word (m := ⟨1, 1⟩) (meth := k1m1) (c := k1c1) (by decide +kernel) rfl rfl rfl (by decide +kernel)
set_option maxRecDepth 65536 in
theorem w_c1 : (Jvm.Cond.code ({ cls := "com/example/linearis/linearis/bundled/Layout", name := "<init>", desc := "([II)V" } : Jvm.MethodName) prog_32_method_1_code (7 : Nat) (Option.none : Option Jvm.ClassFile.FieldType)).before args0 about1 = true := code_word (m := ⟨2, 0⟩) (meth := k2m0) (c := k2c0) (by decide +kernel) rfl rfl rfl (by decide +kernel)
set_option maxRecDepth 65536 in
theorem w_c2 : (Jvm.Cond.code ({ cls := "java/lang/Object", name := "<init>", desc := "()V" } : Jvm.MethodName) object_method_1_code (1 : Nat) (Option.none : Option Jvm.ClassFile.FieldType)).before args0 about1 = true := code_word (m := ⟨0, 0⟩) (meth := k0m0) (c := k0c0) (by decide +kernel) rfl rfl rfl (by decide +kernel)
set_option maxRecDepth 65536 in
theorem w_c3 : (Jvm.Cond.code ({ cls := "java/lang/Integer", name := "numberOfLeadingZeros", desc := "(I)I" } : Jvm.MethodName) jdk_33_method_47_code (2 : Nat) (Option.some Jvm.ClassFile.FieldType.int)).before args0 about1 = true := code_word (m := ⟨8, 0⟩) (meth := k8m0) (c := k8c0) (by decide +kernel) rfl rfl rfl (by decide +kernel)
set_option maxRecDepth 65536 in
theorem w_c4 : (Jvm.Cond.code ({ cls := "com/example/linearis/linearis/bundled/Layout", name := "get", desc := "([JII)I" } : Jvm.MethodName) prog_32_method_6_code (4 : Nat) (Option.some Jvm.ClassFile.FieldType.int)).before args0 about1 = true := code_word (m := ⟨2, 1⟩) (meth := k2m1) (c := k2c1) (by decide +kernel) rfl rfl rfl (by decide +kernel)
set_option maxRecDepth 65536 in
theorem w_c5 : (Jvm.Cond.code ({ cls := "com/example/linearis/linearis/bundled/LayoutGetPinLaw", name := "expected", desc := "(JJJIZ)I" } : Jvm.MethodName) method_3_code (8 : Nat) (Option.some Jvm.ClassFile.FieldType.int)).before args0 about1 = true := code_word (m := ⟨1, 2⟩) (meth := k1m2) (c := k1c2) (by decide +kernel) rfl rfl rfl (by decide +kernel)
def codes1 : List Jvm.Cond := [Jvm.Cond.code x code maxLocals ret, Jvm.Cond.code ({ cls := "com/example/linearis/linearis/bundled/Layout", name := "<init>", desc := "([II)V" } : Jvm.MethodName) prog_32_method_1_code (7 : Nat) (Option.none : Option Jvm.ClassFile.FieldType), Jvm.Cond.code ({ cls := "java/lang/Object", name := "<init>", desc := "()V" } : Jvm.MethodName) object_method_1_code (1 : Nat) (Option.none : Option Jvm.ClassFile.FieldType), Jvm.Cond.code ({ cls := "java/lang/Integer", name := "numberOfLeadingZeros", desc := "(I)I" } : Jvm.MethodName) jdk_33_method_47_code (2 : Nat) (Option.some Jvm.ClassFile.FieldType.int), Jvm.Cond.code ({ cls := "com/example/linearis/linearis/bundled/Layout", name := "get", desc := "([JII)I" } : Jvm.MethodName) prog_32_method_6_code (4 : Nat) (Option.some Jvm.ClassFile.FieldType.int), Jvm.Cond.code ({ cls := "com/example/linearis/linearis/bundled/LayoutGetPinLaw", name := "expected", desc := "(JJJIZ)I" } : Jvm.MethodName) method_3_code (8 : Nat) (Option.some Jvm.ClassFile.FieldType.int)]
set_option maxRecDepth 65536 in
theorem codes_eq : words1.filter isCode = codes1 := rfl
theorem w_codes : ∀ c ∈ words1.filter isCode, c.before args0 about1 = true := by
  rw [codes_eq]
  intro c hc
  simp only [codes1, List.mem_cons, List.not_mem_nil, or_false] at hc
  rcases hc with rfl | rfl | rfl | rfl | rfl | rfl
  · exact w_c0
  · exact w_c1
  · exact w_c2
  · exact w_c3
  · exact w_c4
  · exact w_c5
set_option maxRecDepth 65536 in
theorem w_t1 : (words1.take 24).all (fun c => isCode c || c.before args0 about1) = true := by decide +kernel
set_option maxRecDepth 65536 in
theorem w_t2 : (words1.drop 24).all (fun c => isCode c || c.before args0 about1) = true := by decide +kernel
theorem w_tables : (allAtoms (Jvm.Cond.code x code maxLocals ret :: tables_1)).before args0 about1 = true := by
  rw [allAtoms_all]
  show words1.all (fun c => c.before args0 about1) = true
  refine all_split ?_ w_codes
  rw [← List.take_append_drop 24 words1, List.all_append, w_t1, w_t2]
  rfl
set_option maxRecDepth 65536 in
theorem w_case : (Jvm.Cond.and given_1 narrow_1).before args0 about1 = true := by decide +kernel
theorem w_applies : (headSpec (Jvm.Cond.code x code maxLocals ret :: tables_1) room_1).applies x e0.platform about1 = true :=
  (Spec.applies_iff w_frames).mpr ⟨w_running, w_runnable, w_alone, w_named, w_hears, w_ripe, w_room, w_tables⟩
theorem atStart : AtStart classFile x code maxLocals ret World_1 tables_1 room_1 Calls_1 rest_1 Pre_1 launch0 p0 e0 about1 theMethod args0 below0 :=
  ⟨lists_1, trivial, launch0.admits_env _ _ _, launch0.least_env, fairChoices_fair.cas, fairChoices_fair.clock, w_frames, w_args, w_heap, w_applies, trivial, trivial, w_case⟩
end start1
theorem witness_1 : WitnessClaimed_1 := ⟨start1.p0, start1.e0, start1.about1, start1.theMethod, start1.args0, start1.below0, start1.atStart⟩
end Jvm.Pilot.@@N@@
