import JvmDerived
import JvmDerived.Pilot.@@N@@Statement
import JvmDerived.Pilot.@@N@@Code
set_option linter.unusedVariables false
set_option linter.unusedSimpArgs false
namespace Jvm.OwnKit
open Sem ClassFile Op Lib Jvm.Stand Jvm.Free Jvm.LawKit Jvm.RoadKit
/-! my own layer: an abstract heap of the objects and arrays that the law makes, and a run that goes on to its end -/
abbrev AH : Type := List (Nat × List Value)
abbrev Dic : Type := Nat → String × List (String × String × String)
def lf (n0 : Nat) : Value → Value
  | .ref i => .ref (n0 + i)
  | v => v
def aty : Nat → FieldType
  | 0 => .int
  | 1 => .char
  | 2 => .byte
  | 3 => .long
  | 4 => .boolean
  | _ => .short
def asI : Option Value → Option Int32
  | some (.int x) => some x
  | _ => none
def asJ : Option Value → Option Int64
  | some (.long x) => some x
  | _ => none
def asR : Option Value → Option Nat
  | some (.ref x) => some x
  | _ => none
theorem asI_s {o : Option Value} {x : Int32} (h : asI o = some x) : o = some (.int x) := by
  unfold asI at h; split at h <;> simp_all
theorem asJ_s {o : Option Value} {x : Int64} (h : asJ o = some x) : o = some (.long x) := by
  unfold asJ at h; split at h <;> simp_all
theorem asR_s {o : Option Value} {x : Nat} (h : asR o = some x) : o = some (.ref x) := by
  unfold asR at h; split at h <;> simp_all
/-- a field, a component: read, written -/
def h_fget (A : AH) (t a k : Nat) : Option Value := match A[a]? with
  | some (t', vs) => if t' = t then vs[k]? else none
  | none => none
def h_fset (A : AH) (t a k : Nat) (v : Value) : Option AH := match A[a]? with
  | some (t', vs) => if t' = t ∧ k < vs.length then some (A.set a (t', vs.set k v)) else none
  | none => none
def h_aget (A : AH) (t a : Nat) (j : Int32) : Option Value := if j < 0 then none else h_fget A t a j.toNatClampNeg
def h_aset (A : AH) (t a : Nat) (j : Int32) (v : Value) : Option AH := if j < 0 then none else h_fset A t a j.toNatClampNeg v
def h_alen (A : AH) (t a : Nat) : Option Int32 := match A[a]? with
  | some (t', vs) => if t' = t then some vs.length.toInt32 else none
  | none => none
def h_onew (A : AH) (t : Nat) (ds : List Value) : Option (Nat × AH) := some (A.length, A ++ [(t, ds)])
def h_anew (A : AH) (t cap : Nat) (n : Int32) (d : Value) : Option (Nat × AH) := if n < 0 ∨ cap < n.toNatClampNeg then none else some (A.length, A ++ [(t, List.replicate n.toNatClampNeg d)])
/-- System.arraycopy between two arrays of one primitive kind -/
def h_acp (A : AH) (t a b : Nat) (sp dp n : Int32) : Option AH := match A[a]?, A[b]? with
  | some (t1, vs), some (t2, vd) => if t1 = t ∧ t2 = t ∧ ¬ sp < 0 ∧ ¬ dp < 0 ∧ ¬ n < 0 ∧ sp.toNatClampNeg + n.toNatClampNeg ≤ vs.length ∧ dp.toNatClampNeg + n.toNatClampNeg ≤ vd.length then some (A.set b (t, vd.take dp.toNatClampNeg ++ (vs.drop sp.toNatClampNeg).take n.toNatClampNeg ++ vd.drop (dp.toNatClampNeg + n.toNatClampNeg))) else none
  | _, _ => none
def h_isA (A : AH) (t a : Nat) : Option Unit := match A[a]? with
  | some (t', _) => if t' = t then some () else none
  | none => none
/-- what the heap holds of them -/
def OKa (Z : State) (h : Heap) (a : Addr) (ty : FieldType) (vs : List Value) : Prop := ∃ cl : Cell, Arr Z h a cl ty ∧ cl.slots.toList = vs ∧ vs.length < 2 ^ 31 ∧ ∀ v ∈ vs, fits ty v = true
def OKo (Z : State) (h : Heap) (a : Addr) (C : String) (L : List (String × String × String)) (vs : List Value) : Prop := Exa Z h a C ∧ ∀ (k : Nat) (O n d : String) (v : Value), L[k]? = some (O, n, d) → vs[k]? = some v → Fld Z h a O n d v
def OKx (D : Dic) (Z : State) (h : Heap) (a : Addr) (t : Nat) (vs : List Value) : Prop := (t < 10 → OKa Z h a (aty t) vs) ∧ (10 ≤ t → OKo Z h a (D t).1 (D t).2 vs)
def Rep (D : Dic) (Z : State) (n0 : Nat) (h : Heap) (A : AH) : Prop := h.size = n0 + A.length ∧ ∀ (i t : Nat) (vs : List Value), A[i]? = some (t, vs) → OKx D Z h (n0 + i) t (vs.map (lf n0))
def Sep (Z : State) (L : List (String × String × String)) : Prop := ∀ (k k' : Nat) (O n d O' n' d' : String), L[k]? = some (O, n, d) → L[k']? = some (O', n', d') → k ≠ k' → Jvm.RoadKit.slotOf Z O n d ≠ Jvm.RoadKit.slotOf Z O' n' d'
theorem Sep.nil {Z : State} : Sep Z [] := fun k k' O n d O' n' d' h => by simp at h
theorem sep_of {Z : State} {a0 : Array Value} {C : String} {L : List (String × String × String)} (hl : ∀ x ∈ L, Laid Z a0 C x.1 x.2.1 x.2.2 ∧ (parseFieldDescriptor x.2.2).isSome = true) (hn : (L.map fun x => x.2.1).Nodup) : Sep Z L := by
  intro k k' O n d O' n' d' h h' ne
  obtain ⟨l1, p1⟩ := hl _ (List.mem_of_getElem? h)
  obtain ⟨l2, p2⟩ := hl _ (List.mem_of_getElem? h')
  obtain ⟨t1, e1⟩ := Option.isSome_iff_exists.mp p1
  obtain ⟨t2, e2⟩ := Option.isSome_iff_exists.mp p2
  refine slot_ne l1 l2 ?_ e1 e2
  intro q
  obtain ⟨b1, g1⟩ := List.getElem?_eq_some_iff.mp h
  obtain ⟨b2, g2⟩ := List.getElem?_eq_some_iff.mp h'
  refine ne ((List.getElem_inj (xs := L.map fun x => x.2.1) (h₀ := by simpa using b1) (h₁ := by simpa using b2) hn).mp ?_)
  simp only [List.getElem_map, g1, g2]; exact q
section Facts
variable {D : Dic} {Z : State} {n0 : Nat} {h h' : Heap} {A A' : AH} {t a k : Nat} {v : Value}
theorem fget_s (hg : h_fget A t a k = some v) : ∃ vs, A[a]? = some (t, vs) ∧ vs[k]? = some v := by
  unfold h_fget at hg; split at hg
  · rename_i t' vs e
    split at hg
    · rename_i q; subst q; exact ⟨vs, e, hg⟩
    · cases hg
  · cases hg
theorem fset_s (hg : h_fset A t a k v = some A') : ∃ vs, A[a]? = some (t, vs) ∧ k < vs.length ∧ A' = A.set a (t, vs.set k v) := by
  unfold h_fset at hg; split at hg
  · rename_i t' vs e
    split at hg
    · rename_i q; obtain ⟨rfl, q⟩ := q; exact ⟨vs, e, q, (Option.some.inj hg).symm⟩
    · cases hg
  · cases hg
theorem aget_s {j : Int32} (hg : h_aget A t a j = some v) : ¬ j < 0 ∧ h_fget A t a j.toNatClampNeg = some v := by
  unfold h_aget at hg; split at hg
  · cases hg
  · exact ⟨by assumption, hg⟩
theorem aset_s {j : Int32} (hg : h_aset A t a j v = some A') : ¬ j < 0 ∧ h_fset A t a j.toNatClampNeg v = some A' := by
  unfold h_aset at hg; split at hg
  · cases hg
  · exact ⟨by assumption, hg⟩
theorem isA_s {u : Unit} (hg : h_isA A t a = some u) : ∃ vs, A[a]? = some (t, vs) := by
  unfold h_isA at hg; split at hg
  · rename_i t' vs e
    split at hg
    · rename_i q; subst q; exact ⟨vs, e⟩
    · cases hg
  · cases hg
theorem Rep.exa (RA : Rep D Z n0 h A) (ht : 10 ≤ t) {vs : List Value} (hA : A[a]? = some (t, vs)) : Exa Z h (n0 + a) (D t).1 := ((RA.2 a t vs hA).2 ht).1
theorem Rep.fld (RA : Rep D Z n0 h A) (ht : 10 ≤ t) (hg : h_fget A t a k = some v) {O n d : String} (hk : (D t).2[k]? = some (O, n, d)) : Fld Z h (n0 + a) O n d (lf n0 v) := by
  obtain ⟨vs, e, q⟩ := fget_s hg
  exact ((RA.2 a t vs e).2 ht).2 k O n d _ hk (by simp [q])
theorem Rep.arr (RA : Rep D Z n0 h A) (ht : t < 10) {vs : List Value} (hA : A[a]? = some (t, vs)) : ∃ cl : Cell, Arr Z h (n0 + a) cl (aty t) ∧ cl.slots.toList = vs.map (lf n0) ∧ vs.length < 2 ^ 31 ∧ ∀ v ∈ vs.map (lf n0), fits (aty t) v = true := by
  obtain ⟨cl, h1, h2, h3, h4⟩ := (RA.2 a t vs hA).1 ht
  exact ⟨cl, h1, h2, by simpa using h3, h4⟩
theorem Rep.at (RA : Rep D Z n0 h A) (ht : t < 10) {j : Int32} (hg : h_aget A t a j = some v) : ∃ cl : Cell, Arr Z h (n0 + a) cl (aty t) ∧ ¬ (j < 0 ∨ cl.slots.size ≤ j.toNatClampNeg) ∧ cl.slots[j.toNatClampNeg]? = some (lf n0 v) := by
  obtain ⟨hj, hg⟩ := aget_s hg
  obtain ⟨vs, e, q⟩ := fget_s hg
  obtain ⟨cl, h1, h2, -⟩ := RA.arr ht e
  have h4 : cl.slots[j.toNatClampNeg]? = some (lf n0 v) := by rw [← Array.getElem?_toList, h2]; simp [q]
  refine ⟨cl, h1, ?_, h4⟩
  rintro (c | c)
  · exact hj c
  · exact absurd (Array.getElem?_eq_some_iff.mp h4).1 (Nat.not_lt.mpr c)
theorem OKx.other {sl : Nat} {w : Value} {b : Addr} {vs : List Value} (X : OKx D Z h b t vs) (W : Wr h h' a sl w) (ne : b ≠ a) : OKx D Z h' b t vs := by
  refine ⟨fun q => ?_, fun q => ?_⟩
  · obtain ⟨cl, h1, h2⟩ := X.1 q; exact ⟨cl, h1.other W ne, h2⟩
  · obtain ⟨h1, h2⟩ := X.2 q; exact ⟨h1.wr W, fun k O n d v e1 e2 => (h2 k O n d v e1 e2).other W (Or.inl ne)⟩
theorem Rep.set (RA : Rep D Z n0 h A) {sl : Nat} {w : Value} {vs : List Value} (hl : a < A.length) (W : Wr h h' (n0 + a) sl w) (hN : OKx D Z h' (n0 + a) t (vs.map (lf n0))) : Rep D Z n0 h' (A.set a (t, vs)) := by
  refine ⟨by rw [W.size, RA.1, List.length_set], fun i t' vs' e => ?_⟩
  by_cases q : a = i
  · subst q
    rw [List.getElem?_set_self hl] at e
    obtain ⟨rfl, rfl⟩ := Prod.mk.inj (Option.some.inj e); exact hN
  · rw [List.getElem?_set_ne q] at e
    exact (RA.2 i t' vs' e).other W (fun z => q (Nat.add_left_cancel z).symm)
theorem Rep.wrF (sep : Sep Z (D t).2) (RA : Rep D Z n0 h A) (ht : 10 ≤ t) (hp : h_fset A t a k v = some A') {O n d : String} (hk : (D t).2[k]? = some (O, n, d)) (W : Wr h h' (n0 + a) (Jvm.RoadKit.slotOf Z O n d) (lf n0 v)) : Rep D Z n0 h' A' := by
  obtain ⟨vs, e, q, rfl⟩ := fset_s hp
  refine RA.set (List.getElem?_eq_some_iff.mp e).1 W ⟨fun z => absurd ht (by omega), fun _ => ?_⟩
  obtain ⟨h1, h2⟩ := (RA.2 a t vs e).2 ht
  refine ⟨h1.wr W, fun k' O' n' d' v' e1 e2 => ?_⟩
  rw [List.map_set] at e2
  by_cases c : k = k'
  · subst c
    rw [List.getElem?_set_self (by simpa using q)] at e2
    cases hk.symm.trans e1
    cases e2
    exact (h2 k O n d _ hk (List.getElem?_eq_getElem (by simpa using q))).same W
  · rw [List.getElem?_set_ne c] at e2
    exact (h2 k' O' n' d' v' e1 e2).other W (Or.inr (sep k' k O' n' d' O n d e1 hk (Ne.symm c)))
theorem Rep.wrA (RA : Rep D Z n0 h A) (ht : t < 10) {j : Int32} (hp : h_aset A t a j v = some A') (hft : fits (aty t) (lf n0 v) = true) (W : Wr h h' (n0 + a) j.toNatClampNeg (lf n0 v)) : Rep D Z n0 h' A' := by
  obtain ⟨-, hp⟩ := aset_s hp
  obtain ⟨vs, e, q, rfl⟩ := fset_s hp
  refine RA.set (List.getElem?_eq_some_iff.mp e).1 W ⟨fun z => ?_, fun z => absurd ht (by omega)⟩
  obtain ⟨cl, h1, h2, h3, h4⟩ := RA.arr ht e
  refine ⟨_, h1.same W, ?_, by simpa using h3, fun u hu => ?_⟩
  · show (cl.slots.setIfInBounds _ _).toList = _
    rw [Array.toList_setIfInBounds, h2, List.map_set]
  · rw [List.map_set] at hu
    rcases List.mem_or_eq_of_mem_set hu with q | q
    · exact h4 u q
    · rw [q]; exact hft
theorem Rep.into (RA : Rep D Z n0 h A) (ht : t < 10) {j : Int32} (hp : h_aset A t a j v = some A') : ∃ cl : Cell, Arr Z h (n0 + a) cl (aty t) ∧ ¬ (j < 0 ∨ cl.slots.size ≤ j.toNatClampNeg) := by
  obtain ⟨hj, hp⟩ := aset_s hp
  obtain ⟨vs, e, q, rfl⟩ := fset_s hp
  obtain ⟨cl, h1, h2, -⟩ := RA.arr ht e
  refine ⟨cl, h1, ?_⟩
  have : cl.slots.size = vs.length := by rw [← Array.length_toList, h2]; simp
  rintro (c | c)
  · exact hj c
  · omega
theorem OKx.ext {b : Addr} {vs : List Value} (X : OKx D Z h b t vs) (E : Ext h h') : OKx D Z h' b t vs := by
  refine ⟨fun q => ?_, fun q => ?_⟩
  · obtain ⟨cl, h1, h2⟩ := X.1 q; exact ⟨cl, h1.ext E, h2⟩
  · obtain ⟨h1, h2⟩ := X.2 q; exact ⟨h1.ext E, fun k O n d v e1 e2 => (h2 k O n d v e1 e2).ext E⟩
theorem ext_push (h : Heap) (cl : Cell) : Ext h (h.push cl) := ⟨by simp, fun a c e => by rw [Array.getElem?_push_lt (Array.getElem?_eq_some_iff.mp e).1]; exact (Array.getElem?_eq_getElem _).symm.trans e⟩
theorem Rep.push (RA : Rep D Z n0 h A) {cl : Cell} {vs : List Value} (hN : OKx D Z (h.push cl) h.size t (vs.map (lf n0))) : Rep D Z n0 (h.push cl) (A ++ [(t, vs)]) := by
  refine ⟨by rw [Array.size_push, RA.1, List.length_append]; rfl, fun i t' vs' e => ?_⟩
  by_cases q : i < A.length
  · rw [List.getElem?_append_left q] at e
    exact (RA.2 i t' vs' e).ext (ext_push h cl)
  · rw [List.getElem?_append_right (Nat.le_of_not_lt q)] at e
    have e0 : i - A.length = 0 := by
      have := (List.getElem?_eq_some_iff.mp e).1; simp at this; omega
    rw [e0] at e
    obtain ⟨rfl, rfl⟩ := Prod.mk.inj (Option.some.inj e)
    have : i = A.length := by omega
    have e2 : n0 + i = h.size := by rw [RA.1, this]
    rw [e2]; exact hN
end Facts
/-! a cell replaced -/
section Cells
variable {D : Dic} {Z : State} {n0 : Nat} {h h' : Heap} {A A' : AH} {t a k : Nat} {v : Value}
theorem OKx.at {b : Addr} {vs : List Value} (X : OKx D Z h b t vs) (e : h'[b]? = h[b]?) : OKx D Z h' b t vs := by
  refine ⟨fun q => ?_, fun q => ?_⟩
  · obtain ⟨cl, h1, h2⟩ := X.1 q; exact ⟨cl, ⟨e.trans h1.1, h1.2⟩, h2⟩
  · obtain ⟨⟨cell, kk, e1, e2⟩, h2⟩ := X.2 q
    refine ⟨⟨cell, kk, e.trans e1, e2⟩, fun j O n d v e3 e4 => ?_⟩
    obtain ⟨c2, cf, k2, i2, f2, g1, g2⟩ := h2 j O n d v e3 e4
    exact ⟨c2, cf, k2, i2, f2, e.trans g1, g2⟩
theorem Rep.cell (RA : Rep D Z n0 h A) {cl : Cell} {vs : List Value} (hl : a < A.length) (hN : OKx D Z (h.setIfInBounds (n0 + a) cl) (n0 + a) t (vs.map (lf n0))) : Rep D Z n0 (h.setIfInBounds (n0 + a) cl) (A.set a (t, vs)) := by
  refine ⟨by rw [Array.size_setIfInBounds, RA.1, List.length_set], fun i t' vs' e => ?_⟩
  by_cases q : a = i
  · subst q
    rw [List.getElem?_set_self hl] at e
    obtain ⟨rfl, rfl⟩ := Prod.mk.inj (Option.some.inj e); exact hN
  · rw [List.getElem?_set_ne q] at e
    exact (RA.2 i t' vs' e).at (Array.getElem?_setIfInBounds_ne (fun z => q (Nat.add_left_cancel z)))
end Cells
/-! reading and writing, in plain words -/
theorem eq64 {x y : Int} (h : (x - y) % 18446744073709551616 = 0) (x1 : -9223372036854775808 ≤ x) (x2 : x < 9223372036854775808) (y1 : -9223372036854775808 ≤ y) (y2 : y < 9223372036854775808) : x = y := by omega
theorem eq32 {x y : Int} (h : (x - y) % 4294967296 = 0) (x1 : -2147483648 ≤ x) (x2 : x < 2147483648) (y1 : -2147483648 ≤ y) (y2 : y < 2147483648) : x = y := by omega
theorem nar1 : nar .boolean (1 : Int32) = 1 := by decide
theorem nar0 : nar .boolean (0 : Int32) = 0 := by decide
theorem nclamp (j : Int32) : j.toNatClampNeg = j.toInt.toNat := rfl
theorem nneg {j : Int32} : ¬ j < 0 ↔ 0 ≤ j.toInt := by rw [Int32.lt_iff_toInt_lt]; show ¬ _ < (0 : Int) ↔ _; omega
theorem aset_ok {A : AH} {t a : Nat} {vs : List Value} {j : Int32} {v : Value} (hA : A[a]? = some (t, vs)) (h0 : 0 ≤ j.toInt) (h1 : j.toInt < vs.length) : h_aset A t a j v = some (A.set a (t, vs.set j.toInt.toNat v)) := by
  unfold h_aset; rw [if_neg (nneg.mpr h0)]; unfold h_fset; rw [hA]; simp only [nclamp]
  have : j.toInt.toNat < vs.length := by omega
  rw [if_pos ⟨trivial, this⟩]
theorem aget_ok {A : AH} {t a : Nat} {vs : List Value} {j : Int32} (hA : A[a]? = some (t, vs)) (h0 : 0 ≤ j.toInt) : h_aget A t a j = vs[j.toInt.toNat]? := by
  unfold h_aget; rw [if_neg (nneg.mpr h0)]; unfold h_fget; rw [hA]; simp only [nclamp, if_true]
theorem anew_ok {A : AH} {t cap : Nat} {n : Int32} {d : Value} (h0 : 0 ≤ n.toInt) (h1 : n.toInt ≤ cap) : h_anew A t cap n d = some (A.length, A ++ [(t, List.replicate n.toInt.toNat d)]) := by
  unfold h_anew; rw [nclamp, if_neg (by rintro (c | c); exact nneg.mpr h0 c; omega)]
theorem aset1 {t : Nat} {vs : List Value} {j : Int32} {v : Value} (h0 : 0 ≤ j.toInt) (h1 : j.toInt < vs.length) : h_aset [(t, vs)] t 0 j v = some [(t, vs.set j.toInt.toNat v)] := aset_ok rfl h0 h1
theorem aget1 {t : Nat} {vs : List Value} {j : Int32} (h0 : 0 ≤ j.toInt) : h_aget [(t, vs)] t 0 j = vs[j.toInt.toNat]? := aget_ok rfl h0
/-! ### a run that goes on to its end -/
def Go (p : Program) (e : Env) (below : List Frame) (S : State) (G : Outcome → State → Prop) : Prop := ∃ t o, Steps p.tables e below S t ∧ t.status = .running ∧ Ended t below o ∧ G o t
def QR (D : Dic) (Z : State) (n0 : Nat) (r : Option Value) (A : AH) (v : Option Value) (h : Heap) (L : List Loc) : Prop := v = r ∧ Fr n0 L ∧ Rep D Z n0 h A
def Fini (D : Dic) (Z : State) (n0 : Nat) (s : State) (R : Room) (r : Option Value) (A : AH) : Outcome → State → Prop := fun o t => ∃ v L, o = .returned v ∧ QR D Z n0 r A v t.heap L ∧ FrameEnd s o t L R.cells R.slots
def On (p : Program) (l : Launch) (e : Env) (R : Room) (s : State) (m : MethodId) (args : Array Value) (below : List Frame) (meth : Method) (c : Code) (D : Dic) (Z : State) (n0 : Nat) (T : State) (A : AH) (cells slots : Nat) : Prop :=
  ∃ locs, Stand p l e R s m args below meth c T locs cells slots ∧ Fr n0 locs ∧ Rep D Z n0 T.heap A
def Cx (p : Program) (l : Launch) (e : Env) (R : Room) (s : State) (m : MethodId) (meth : Method) (c : Code) (Z : State) (a0 : Array Value) (W : List Jvm.Cond) (own nm : String) (bytes : ByteArray) (ml : Nat) (rt : Option FieldType) : Prop :=
  p.tables.exec = Jvm.exec ∧ Z.Warmed39 s.vm ∧ s.vm.findClass own = some m.cls ∧ c.code = bytes ∧ c.maxLocals = ml ∧ meth.sig.returnType = rt ∧ meth.locks = false ∧ meth.name = nm ∧ ∀ d ∈ W, d.before a0 Z = true
def Met (l : Launch) (D : Dic) (Z : State) (n0 : Nat) (y : MethodName) (bytes : ByteArray) (ml : Nat) (rt : Option FieldType) (R : Room) (as : List Value) (A : AH) (r : Option Value) (A' : AH) : Prop :=
  ∀ (ws : List Jvm.Cond) (h0 : Heap), Rep D Z n0 h0 A → MetFree l y (head1 (Jvm.Cond.code y bytes ml rt :: ws) R) (fun a U => a = as.toArray ∧ Z.Warmed39 U.vm ∧ U.heap = h0) (fun _ _ _ _ _ => True) (fun _ U o U' => ∃ v L, o = .returned v ∧ QR D Z n0 r A' v U'.heap L ∧ FrameEnd U o U' L R.cells R.slots)
section Walk
variable {p : Program} {l : Launch} {e : Env} {R : Room} {s : State} {m : MethodId} {args : Array Value} {below : List Frame} {meth : Method} {c : Code} {Z : State} {a0 : Array Value} {W : List Jvm.Cond} {own nm : String} {bytes : ByteArray} {ml : Nat} {rt : Option FieldType} {D : Dic} {n0 : Nat} {T : State} {A A' : AH} {cells slots : Nat} {G : Outcome → State → Prop} {pc : Nat} {Ls : Array Slot} {st : List Value}
theorem go {S S' : State} (h : ∀ t, Steps p.tables e below S' t → Steps p.tables e below S t) (k : Go p e below S' G) : Go p e below S G := by
  obtain ⟨t, o, h1, h2⟩ := k; exact ⟨t, o, h t h1, h2⟩
theorem On.here (X : On p l e R s m args below meth c D Z n0 T A cells slots) : At T m c below := by obtain ⟨_, X, -⟩ := X; exact X.here
theorem On.more {cells' slots' : Nat} (X : On p l e R s m args below meth c D Z n0 T A cells slots) (hc : cells ≤ cells') (hs : slots ≤ slots') : On p l e R s m args below meth c D Z n0 T A cells' slots' := by
  obtain ⟨locs, X, N⟩ := X; exact ⟨locs, X.more hc hs, N⟩
theorem wd {d : Jvm.Cond} (K : Cx p l e R s m meth c Z a0 W own nm bytes ml rt) {i : Nat} (h : W[i]? = some d) : d.before a0 Z = true := K.2.2.2.2.2.2.2.2 d (List.mem_of_getElem? h)
theorem dc (K : Cx p l e R s m meth c Z a0 W own nm bytes ml rt) {r : Except DecodeError (Instr × Nat)} (h : decode bytes pc = r) : decode c.code pc = r := K.2.2.2.1 ▸ h
theorem ldcI (K : Cx p l e R s m meth c Z a0 W own nm bytes ml rt) (X : On p l e R s m args below meth c D Z n0 T A cells slots) {i idx : Nat} {v : Int32} (w : W[i]? = some (.constant own idx v)) (hd : decode bytes pc = .ok (.ldc idx, 2))
    {pc' : Nat} (hp : pc + 2 = pc') (k : Go p e below (T.setTop (mkF m pc'  Ls (.int v :: st))) G) : Go p e below (T.setTop (mkF m pc Ls st)) G := by
  subst hp
  obtain ⟨locs, X, -⟩ := X
  exact go (X.ldcInt K.1 K.2.2.1 (mvT K.2.1 (wd K w)) (g := mkF m pc Ls st) rfl (dc K hd)) k
theorem ldcwI (K : Cx p l e R s m meth c Z a0 W own nm bytes ml rt) (X : On p l e R s m args below meth c D Z n0 T A cells slots) {i idx : Nat} {v : Int32} (w : W[i]? = some (.constant own idx v)) (hd : decode bytes pc = .ok (.ldc_w idx, 3))
    {pc' : Nat} (hp : pc + 3 = pc') (k : Go p e below (T.setTop (mkF m pc'  Ls (.int v :: st))) G) : Go p e below (T.setTop (mkF m pc Ls st)) G := by
  subst hp
  obtain ⟨locs, X, -⟩ := X
  exact go (X.ldcwInt K.1 K.2.2.1 (mvT K.2.1 (wd K w)) (g := mkF m pc Ls st) rfl (dc K hd)) k
theorem ldcL (K : Cx p l e R s m meth c Z a0 W own nm bytes ml rt) (X : On p l e R s m args below meth c D Z n0 T A cells slots) {i idx : Nat} {v : Int64} (w : W[i]? = some (.constantLong own idx v)) (hd : decode bytes pc = .ok (.ldc2_w idx, 3))
    {pc' : Nat} (hp : pc + 3 = pc') (k : Go p e below (T.setTop (mkF m pc'  Ls (.long v :: st))) G) : Go p e below (T.setTop (mkF m pc Ls st)) G := by
  subst hp
  obtain ⟨locs, X, -⟩ := X
  exact go (X.ldc2Long K.1 K.2.2.1 (mvT K.2.1 (wd K w)) (g := mkF m pc Ls st) rfl (dc K hd)) k
/-! the returns -/
theorem retV (K : Cx p l e R s m meth c Z a0 W own nm bytes ml none) (X : On p l e R s m args below meth c D Z n0 T A cells slots) (hc : cells ≤ R.cells) (hs : slots ≤ R.slots) (hd : decode bytes pc = .ok (.return_, 1)) :
    Go p e below (T.setTop (mkF m pc Ls [])) (Fini D Z n0 s R none A) := by
  obtain ⟨locs, X, N, RA⟩ := X
  obtain ⟨fs, hr, hrun, hended, hW, hsame⟩ := X.leave (v := none) (fun _ => rfl) K.2.2.2.2.2.2.1
  exact ⟨_, _, X.returnOut K.1 K.2.2.2.2.2.1 (dc K hd) hr, hrun, hended, none, locs, rfl, ⟨rfl, N, RA⟩, ⟨_, rfl⟩, hW, hsame.mono hc hs⟩
theorem retX {t : FieldType} {i : Instr} {w : Value} (K : Cx p l e R s m meth c Z a0 W own nm bytes ml (some t)) (X : On p l e R s m args below meth c D Z n0 T A cells slots) (hc : cells ≤ R.cells) (hs : slots ≤ R.slots) (hd : decode bytes pc = .ok (i, 1)) (hn : narrow t w = w)
    (hi : (i = .ireturn ∧ (t = .int ∨ t = .boolean ∨ t = .byte ∨ t = .char ∨ t = .short) ∧ ∃ z, w = .int z) ∨ (i = .lreturn ∧ t = .long ∧ ∃ z, w = .long z) ∨ (i = .dreturn ∧ t = .double ∧ ∃ z, w = .double z) ∨ (i = .freturn ∧ t = .float ∧ ∃ z, w = .float z) ∨ (i = .areturn ∧ t.isReference = true ∧ w.isRef = true)) :
    Go p e below (T.setTop (mkF m pc Ls (w :: st))) (Fini D Z n0 s R (some w) A) := by
  obtain ⟨locs, X, N, RA⟩ := X
  obtain ⟨fs, hr, hrun, hended, hW, hsame⟩ := X.leave (v := some w) (fun h => by rw [K.2.2.2.2.2.1] at h; cases h) K.2.2.2.2.2.2.1
  exact ⟨_, _, Jvm.RoadKit.retOut X K.1 K.2.2.2.2.2.1 hn hi (dc K hd) hr, hrun, hended, some w, locs, rfl, ⟨rfl, N, RA⟩, ⟨_, rfl⟩, hW, hsame.mono hc hs⟩
theorem retI {z : Int32} (K : Cx p l e R s m meth c Z a0 W own nm bytes ml (some .int)) (X : On p l e R s m args below meth c D Z n0 T A cells slots) (hc : cells ≤ R.cells) (hs : slots ≤ R.slots) (hd : decode bytes pc = .ok (.ireturn, 1)) :
    Go p e below (T.setTop (mkF m pc Ls (.int z :: st))) (Fini D Z n0 s R (some (.int z)) A) := retX K X hc hs hd rfl (Or.inl ⟨rfl, Or.inl rfl, z, rfl⟩)
theorem retJ {z : Int64} (K : Cx p l e R s m meth c Z a0 W own nm bytes ml (some .long)) (X : On p l e R s m args below meth c D Z n0 T A cells slots) (hc : cells ≤ R.cells) (hs : slots ≤ R.slots) (hd : decode bytes pc = .ok (.lreturn, 1)) :
    Go p e below (T.setTop (mkF m pc Ls (.long z :: st))) (Fini D Z n0 s R (some (.long z)) A) := retX K X hc hs hd rfl (Or.inr (Or.inl ⟨rfl, rfl, z, rfl⟩))
theorem retR {a : Addr} {t : FieldType} (K : Cx p l e R s m meth c Z a0 W own nm bytes ml (some t)) (ht : t.isReference = true) (hn : narrow t (.ref a) = .ref a) (X : On p l e R s m args below meth c D Z n0 T A cells slots) (hc : cells ≤ R.cells) (hs : slots ≤ R.slots) (hd : decode bytes pc = .ok (.areturn, 1)) :
    Go p e below (T.setTop (mkF m pc Ls (.ref a :: st))) (Fini D Z n0 s R (some (.ref a)) A) := retX K X hc hs hd hn (Or.inr (Or.inr (Or.inr (Or.inr ⟨rfl, ht, rfl⟩))))
theorem retB {z : Int32} {t : FieldType} (K : Cx p l e R s m meth c Z a0 W own nm bytes ml (some t)) (ht : t = .boolean ∨ t = .byte ∨ t = .char ∨ t = .short) (X : On p l e R s m args below meth c D Z n0 T A cells slots) (hc : cells ≤ R.cells) (hs : slots ≤ R.slots) (hd : decode bytes pc = .ok (.ireturn, 1)) :
    Go p e below (T.setTop (mkF m pc Ls (.int z :: st))) (Fini D Z n0 s R (some (.int (nar t z))) A) := by
  obtain ⟨locs, X, N, RA⟩ := X
  obtain ⟨fs, hr, hrun, hended, hW, hsame⟩ := X.leave (v := some (.int (nar t z))) (fun h => by rw [K.2.2.2.2.2.1] at h; cases h) K.2.2.2.2.2.2.1
  exact ⟨_, _, Jvm.RoadKit.retN X K.1 K.2.2.2.2.2.1 ht (dc K hd) hr, hrun, hended, some (.int (nar t z)), locs, rfl, ⟨rfl, N, RA⟩, ⟨_, rfl⟩, hW, hsame.mono hc hs⟩
/-! fields -/
theorem getf (K : Cx p l e R s m meth c Z a0 W own nm bytes ml rt) (X : On p l e R s m args below meth c D Z n0 T A cells slots) {i idx t f a : Nat} {O n d : String} {v : Value} (w : W[i]? = some (.fieldLink own idx O n d)) (hd : decode bytes pc = .ok (.getfield idx, 3))
    (ht : 10 ≤ t) (hk : (D t).2[f]? = some (O, n, d)) (hg : h_fget A t a f = some v)
    {pc' : Nat} (hp : pc + 3 = pc') (k : ∀ T', On p l e R s m args below meth c D Z n0 T' A cells slots → Go p e below (T'.setTop (mkF m pc'  Ls (lf n0 v :: st))) G) : Go p e below (T.setTop (mkF m pc Ls (.ref (n0 + a) :: st))) G := by
  subst hp
  obtain ⟨locs, X, N, RA⟩ := X
  obtain ⟨T', X', e', stp⟩ := getF X K.1 K.2.1 K.2.2.1 (host := "") (Or.inl (wd K w)) Via.refl rfl (RA.fld ht hg hk) (g := mkF m pc Ls (.ref (n0 + a) :: st)) rfl rfl (dc K hd)
  exact go stp (k T' ⟨locs, X', N, by rw [e']; exact RA⟩)
theorem getfI (K : Cx p l e R s m meth c Z a0 W own nm bytes ml rt) (X : On p l e R s m args below meth c D Z n0 T A cells slots) {i idx t f a : Nat} {O n d : String} {v : Int32} (w : W[i]? = some (.fieldLink own idx O n d)) (hd : decode bytes pc = .ok (.getfield idx, 3))
    (ht : 10 ≤ t) (hk : (D t).2[f]? = some (O, n, d)) (hg : asI (h_fget A t a f) = some v)
    {pc' : Nat} (hp : pc + 3 = pc') (k : ∀ T', On p l e R s m args below meth c D Z n0 T' A cells slots → Go p e below (T'.setTop (mkF m pc' Ls (.int v :: st))) G) : Go p e below (T.setTop (mkF m pc Ls (.ref (n0 + a) :: st))) G := getf K X w hd ht hk (asI_s hg) hp k
theorem getfJ (K : Cx p l e R s m meth c Z a0 W own nm bytes ml rt) (X : On p l e R s m args below meth c D Z n0 T A cells slots) {i idx t f a : Nat} {O n d : String} {v : Int64} (w : W[i]? = some (.fieldLink own idx O n d)) (hd : decode bytes pc = .ok (.getfield idx, 3))
    (ht : 10 ≤ t) (hk : (D t).2[f]? = some (O, n, d)) (hg : asJ (h_fget A t a f) = some v)
    {pc' : Nat} (hp : pc + 3 = pc') (k : ∀ T', On p l e R s m args below meth c D Z n0 T' A cells slots → Go p e below (T'.setTop (mkF m pc' Ls (.long v :: st))) G) : Go p e below (T.setTop (mkF m pc Ls (.ref (n0 + a) :: st))) G := getf K X w hd ht hk (asJ_s hg) hp k
theorem getfR (K : Cx p l e R s m meth c Z a0 W own nm bytes ml rt) (X : On p l e R s m args below meth c D Z n0 T A cells slots) {i idx t f a : Nat} {O n d : String} {v : Nat} (w : W[i]? = some (.fieldLink own idx O n d)) (hd : decode bytes pc = .ok (.getfield idx, 3))
    (ht : 10 ≤ t) (hk : (D t).2[f]? = some (O, n, d)) (hg : asR (h_fget A t a f) = some v)
    {pc' : Nat} (hp : pc + 3 = pc') (k : ∀ T', On p l e R s m args below meth c D Z n0 T' A cells slots → Go p e below (T'.setTop (mkF m pc' Ls (.ref (n0 + v) :: st))) G) : Go p e below (T.setTop (mkF m pc Ls (.ref (n0 + a) :: st))) G := getf K X w hd ht hk (asR_s hg) hp k
theorem putf (K : Cx p l e R s m meth c Z a0 W own nm bytes ml rt) (sep : ∀ t, Sep Z (D t).2) (X : On p l e R s m args below meth c D Z n0 T A cells slots) {i idx t f a kk i2 : Nat} {O n d : String} {va v : Value} {ty : FieldType} (w : W[i]? = some (.fieldLink own idx O n d)) (hd : decode bytes pc = .ok (.putfield idx, 3))
    (ht : 10 ≤ t) (hk : (D t).2[f]? = some (O, n, d)) (wl : (Jvm.Cond.lays (D t).1 O n d).before a0 Z = true ∨ ((Jvm.Cond.laysFinal (D t).1 O n d).before a0 Z = true ∧ own = O ∧ nm = "<init>")) (wi : W[i2]? = some (.instantiable (D t).1 kk))
    (hty : parseFieldDescriptor d = some ty) (hn : narrow ty v = lf n0 va) (hf : fits ty (lf n0 va) = true) (hp : h_fset A t a f va = some A')
    {pc' : Nat} (hp : pc + 3 = pc') (k : ∀ T', On p l e R s m args below meth c D Z n0 T' A' cells slots → Go p e below (T'.setTop (mkF m pc'  Ls st)) G) : Go p e below (T.setTop (mkF m pc Ls (v :: .ref (n0 + a) :: st))) G := by
  subst hp
  obtain ⟨locs, X, N, RA⟩ := X
  obtain ⟨vs, hA, hlt, -⟩ := fset_s hp
  have F := RA.fld ht (show h_fget A t a f = some vs[f] by simp [h_fget, hA]) hk
  obtain ⟨T', h', X', e', W', stp⟩ := putFN X K.1 K.2.1 K.2.2.1 (wd K w) Via.refl rfl F (RA.exa ht hA) (wl.imp id fun q => ⟨q.1, q.2.1, K.2.2.2.2.2.2.2.1.trans q.2.2⟩) (wd K wi) hty hn hf (g := mkF m pc Ls (v :: .ref (n0 + a) :: st)) rfl rfl (dc K hd)
  exact go stp (k T' ⟨_, X', Fr.snoc X' N (Nat.le_add_right _ _), by rw [e']; exact RA.wrF (sep t) ht hp hk W'⟩)
/-! new -/
theorem newo (K : Cx p l e R s m meth c Z a0 W own nm bytes ml rt) (X : On p l e R s m args below meth c D Z n0 T A cells slots) {i1 i2 i3 idx n t : Nat} {ds : List Value} (w1 : W[i1]? = some (.classLink own idx (D t).1)) (w2 : W[i2]? = some (.instantiable (D t).1 n)) (w3 : W[i3]? = some (.initialized (D t).1))
    (hd : decode bytes pc = .ok (.new idx, 3)) (hc : cells + 1 ≤ R.cells) (hs : slots + n ≤ R.slots) (ht : 10 ≤ t) (hds : ∀ (k : Nat) (O f d : String) (v : Value), (D t).2[k]? = some (O, f, d) → ds[k]? = some v → ∃ ty, parseFieldDescriptor d = some ty ∧ Laid Z a0 (D t).1 O f d ∧ lf n0 v = defaultValue ty)
    {q : Nat × AH} (hq : h_onew A t ds = some q)
    {pc' : Nat} (hp : pc + 3 = pc') (k : ∀ T', On p l e R s m args below meth c D Z n0 T' q.2 (cells + 1) (slots + n) → Go p e below (T'.setTop (mkF m pc'  Ls (.ref (n0 + q.1) :: st))) G) : Go p e below (T.setTop (mkF m pc Ls st)) G := by
  subst hp
  cases hq
  obtain ⟨locs, X, N, RA⟩ := X
  obtain ⟨vm', cC, kC, h1, h2, h3, h4, X', stp⟩ := X.newCold K.1 K.2.2.1 (mvT K.2.1 (wd K w1)) (mvT K.2.1 (wd K w2)) (mvT K.2.1 (wd K w3)) (g := mkF m pc Ls st) rfl (dc K hd) hc hs
  have hZ := K.2.1
  rw [hZ.alike.findClass] at h1
  obtain ⟨kZ, z1, -⟩ := Vm.findClass_spec h1
  obtain ⟨k', z2, z3⟩ := hZ.alike.2.2 _ _ z1
  cases h2.symm.trans z2
  have ei : kC.instanceTypes = kZ.instanceTypes := by rw [z3]
  have hN : (T.heap.push { cls := cC, slots := kC.instanceTypes.map defaultValue, vm := .none })[T.heap.size]? = some { cls := cC, slots := kC.instanceTypes.map defaultValue, vm := .none } := by simp
  have hsz := RA.1
  refine go stp ?_
  rw [hsz]
  refine k _ ⟨locs, X', N, ?_⟩
  show Rep D Z n0 (T.heap.push _) _
  refine RA.push ⟨fun z => absurd ht (by omega), fun _ => ⟨⟨_, kZ, hN, h1, z1, rfl, fun _ => by simp [ei]⟩, fun j O f d v e1 e2 => ?_⟩⟩
  rw [List.getElem?_map, Option.map_eq_some_iff] at e2
  obtain ⟨v0, e2, rfl⟩ := e2
  obtain ⟨ty, p1, p2, p3⟩ := hds j O f d v0 e1 e2
  obtain ⟨c1, k1, cf, kf, i, f', a1, a2, a3, a4, a5, a6, -⟩ := p2.spec
  cases h1.symm.trans a1
  cases z1.symm.trans a2
  exact ⟨_, cf, kf, i, f', hN, a3, a4, by simp, rfl, a5, by simp [ei, a6, (State.fieldFound?_type a3 p1).2, p3]⟩
theorem newa (K : Cx p l e R s m meth c Z a0 W own nm bytes ml rt) (X : On p l e R s m args below meth c D Z n0 T A cells slots) {i1 t cap : Nat} {at' : ArrayType} {n : Int32} {dv : Value} (w1 : W[i1]? = some (.arrayClass (newarray.typeOf at'))) (hd : decode bytes pc = .ok (.newarray at', 2))
    (hb : cap * 8 ≤ 536870912) (hc : cells + 1 ≤ R.cells) (hs : slots + cap ≤ R.slots) (ht : t < 10) (hty : newarray.typeOf at' = aty t) (hdv : lf n0 dv = defaultValue (aty t)) {q : Nat × AH} (hq : h_anew A t cap n dv = some q)
    {pc' : Nat} (hp : pc + 2 = pc') (k : ∀ T', On p l e R s m args below meth c D Z n0 T' q.2 (cells + 1) (slots + cap) → Go p e below (T'.setTop (mkF m pc'  Ls (.ref (n0 + q.1) :: st))) G) : Go p e below (T.setTop (mkF m pc Ls (.int n :: st))) G := by
  subst hp
  unfold h_anew at hq
  split at hq
  · cases hq
  rename_i hn
  cases hq
  have hn1 : ¬ n < 0 := fun z => hn (Or.inl z)
  have hn2 : n.toNatClampNeg ≤ cap := Nat.le_of_not_lt fun z => hn (Or.inr z)
  have hn3 : n.toNatClampNeg < 2 ^ 31 := (back32 hn1).2
  obtain ⟨locs, X, N, RA⟩ := X
  have hZ := K.2.1
  have hcb : componentBytes (newarray.typeOf at') ≤ 8 := by cases at' <;> decide
  obtain ⟨cA, kA, comp, h1, h2, h3, X', stp⟩ := X.newarrayPrim K.1 (mvA hZ (wd K w1)) (g := mkF m pc Ls (.int n :: st)) rfl (dc K hd) rfl hn1 (Nat.le_trans (Nat.mul_le_mul hn2 hcb) hb) hc (by omega)
  rw [hZ.alike.findClass] at h1
  obtain ⟨kZ, z1, -⟩ := Vm.findClass_spec h1
  obtain ⟨k', z2, z3⟩ := hZ.alike.2.2 _ _ z1
  cases h2.symm.trans z2
  refine go stp ?_
  rw [RA.1]
  refine k _ ⟨locs, X'.more (Nat.le_refl _) (by omega), N, ?_⟩
  show Rep D Z n0 (T.heap.push _) _
  refine RA.push ⟨fun _ => ⟨_, ⟨by simp; rfl, ⟨by simp, kZ, z1, comp, by rw [← hty, ← h3, z3]⟩, by simp⟩, ?_, by simpa using hn3, fun v hv => ?_⟩, fun z => absurd ht (by omega)⟩
  · simp [hty, hdv]
  · rw [List.map_replicate] at hv
    rw [List.eq_of_mem_replicate hv, hdv]; cases aty t <;> rfl
/-! arrays -/
theorem h_alen' (K : Cx p l e R s m meth c Z a0 W own nm bytes ml rt) (X : On p l e R s m args below meth c D Z n0 T A cells slots) {t a : Nat} {n : Int32} (ht : t < 10) (hg : h_alen A t a = some n) (hd : decode bytes pc = .ok (.arraylength, 1))
    {pc' : Nat} (hp : pc + 1 = pc') (k : Go p e below (T.setTop (mkF m pc'  Ls (.int n :: st))) G) : Go p e below (T.setTop (mkF m pc Ls (.ref (n0 + a) :: st))) G := by
  subst hp
  obtain ⟨locs, X, N, RA⟩ := X
  unfold h_alen at hg
  split at hg
  · rename_i t' vs e
    split at hg
    · rename_i q; subst q
      cases hg
      obtain ⟨cl, h1, h2, -⟩ := RA.arr ht e
      have : cl.slots.size = vs.length := by rw [← Array.length_toList, h2]; simp
      rw [← this] at k
      exact go (X.arraylength K.1 h1.1 (State.isArrayOf_alike K.2.1.alike h1.2.1) (g := mkF m pc Ls (.ref (n0 + a) :: st)) rfl rfl (dc K hd)) k
    · cases hg
  · cases hg
theorem ald0 (K : Cx p l e R s m meth c Z a0 W own nm bytes ml rt) (X : On p l e R s m args below meth c D Z n0 T A cells slots) {a : Nat} {j : Int32} {v : Value} (hg : h_aget A 0 a j = some v) (hd : decode bytes pc = .ok (.iaload, 1))
    {pc' : Nat} (hp : pc + 1 = pc') (k : Go p e below (T.setTop (mkF m pc'  Ls (lf n0 v :: st))) G) : Go p e below (T.setTop (mkF m pc Ls (.int j :: .ref (n0 + a) :: st))) G := by
  subst hp
  obtain ⟨locs, X, N, RA⟩ := X
  obtain ⟨cl, h1, h2, h3⟩ := RA.at (by decide) hg
  exact go (X.iaload K.1 h1.1 (State.isArrayOf_alike K.2.1.alike h1.2.1) h1.2.2 h2 h3 (g := mkF m pc Ls (.int j :: .ref (n0 + a) :: st)) rfl rfl (dc K hd)) k
theorem ald1 (K : Cx p l e R s m meth c Z a0 W own nm bytes ml rt) (X : On p l e R s m args below meth c D Z n0 T A cells slots) {a : Nat} {j : Int32} {v : Value} (hg : h_aget A 1 a j = some v) (hd : decode bytes pc = .ok (.caload, 1))
    {pc' : Nat} (hp : pc + 1 = pc') (k : Go p e below (T.setTop (mkF m pc'  Ls (lf n0 v :: st))) G) : Go p e below (T.setTop (mkF m pc Ls (.int j :: .ref (n0 + a) :: st))) G := by
  subst hp
  obtain ⟨locs, X, N, RA⟩ := X
  obtain ⟨cl, h1, h2, h3⟩ := RA.at (by decide) hg
  exact go (X.caload K.1 h1.1 (State.isArrayOf_alike K.2.1.alike h1.2.1) h1.2.2 h2 h3 (g := mkF m pc Ls (.int j :: .ref (n0 + a) :: st)) rfl rfl (dc K hd)) k
theorem ald2 (K : Cx p l e R s m meth c Z a0 W own nm bytes ml rt) (X : On p l e R s m args below meth c D Z n0 T A cells slots) {a : Nat} {j : Int32} {v : Value} (hg : h_aget A 2 a j = some v) (hd : decode bytes pc = .ok (.baload, 1))
    {pc' : Nat} (hp : pc + 1 = pc') (k : Go p e below (T.setTop (mkF m pc'  Ls (lf n0 v :: st))) G) : Go p e below (T.setTop (mkF m pc Ls (.int j :: .ref (n0 + a) :: st))) G := by
  subst hp
  obtain ⟨locs, X, N, RA⟩ := X
  obtain ⟨cl, h1, h2, h3⟩ := RA.at (by decide) hg
  exact go (X.baloadBytes K.1 h1.1 (State.isArrayOf_alike K.2.1.alike h1.2.1) h1.2.2 h2 h3 (g := mkF m pc Ls (.int j :: .ref (n0 + a) :: st)) rfl rfl (dc K hd)) k
theorem ald3 (K : Cx p l e R s m meth c Z a0 W own nm bytes ml rt) (X : On p l e R s m args below meth c D Z n0 T A cells slots) {a : Nat} {j : Int32} {v : Value} (hg : h_aget A 3 a j = some v) (hd : decode bytes pc = .ok (.laload, 1))
    {pc' : Nat} (hp : pc + 1 = pc') (k : Go p e below (T.setTop (mkF m pc'  Ls (lf n0 v :: st))) G) : Go p e below (T.setTop (mkF m pc Ls (.int j :: .ref (n0 + a) :: st))) G := by
  subst hp
  obtain ⟨locs, X, N, RA⟩ := X
  obtain ⟨cl, h1, h2, h3⟩ := RA.at (by decide) hg
  exact go (X.laload K.1 h1.1 (State.isArrayOf_alike K.2.1.alike h1.2.1) h1.2.2 h2 h3 (g := mkF m pc Ls (.int j :: .ref (n0 + a) :: st)) rfl rfl (dc K hd)) k
theorem ald4 (K : Cx p l e R s m meth c Z a0 W own nm bytes ml rt) (X : On p l e R s m args below meth c D Z n0 T A cells slots) {a : Nat} {j : Int32} {v : Value} (hg : h_aget A 4 a j = some v) (hd : decode bytes pc = .ok (.baload, 1))
    {pc' : Nat} (hp : pc + 1 = pc') (k : Go p e below (T.setTop (mkF m pc'  Ls (lf n0 v :: st))) G) : Go p e below (T.setTop (mkF m pc Ls (.int j :: .ref (n0 + a) :: st))) G := by
  subst hp
  obtain ⟨locs, X, N, RA⟩ := X
  obtain ⟨cl, h1, h2, h3⟩ := RA.at (by decide) hg
  exact go (X.baloadBooleans K.1 h1.1 (State.isArrayOf_alike K.2.1.alike h1.2.1) h1.2.2 h2 h3 (g := mkF m pc Ls (.int j :: .ref (n0 + a) :: st)) rfl rfl (dc K hd)) k
theorem ld0 (K : Cx p l e R s m meth c Z a0 W own nm bytes ml rt) (X : On p l e R s m args below meth c D Z n0 T A cells slots) {a : Nat} {j : Int32} {v : Int32} (hg : asI (h_aget A 0 a j) = some v) (hd : decode bytes pc = .ok (.iaload, 1))
    {pc' : Nat} (hp : pc + 1 = pc') (k : Go p e below (T.setTop (mkF m pc' Ls (.int v :: st))) G) : Go p e below (T.setTop (mkF m pc Ls (.int j :: .ref (n0 + a) :: st))) G := ald0 K X (asI_s hg) hd hp k
theorem ld1 (K : Cx p l e R s m meth c Z a0 W own nm bytes ml rt) (X : On p l e R s m args below meth c D Z n0 T A cells slots) {a : Nat} {j : Int32} {v : Int32} (hg : asI (h_aget A 1 a j) = some v) (hd : decode bytes pc = .ok (.caload, 1))
    {pc' : Nat} (hp : pc + 1 = pc') (k : Go p e below (T.setTop (mkF m pc' Ls (.int v :: st))) G) : Go p e below (T.setTop (mkF m pc Ls (.int j :: .ref (n0 + a) :: st))) G := ald1 K X (asI_s hg) hd hp k
theorem ld2 (K : Cx p l e R s m meth c Z a0 W own nm bytes ml rt) (X : On p l e R s m args below meth c D Z n0 T A cells slots) {a : Nat} {j : Int32} {v : Int32} (hg : asI (h_aget A 2 a j) = some v) (hd : decode bytes pc = .ok (.baload, 1))
    {pc' : Nat} (hp : pc + 1 = pc') (k : Go p e below (T.setTop (mkF m pc' Ls (.int v :: st))) G) : Go p e below (T.setTop (mkF m pc Ls (.int j :: .ref (n0 + a) :: st))) G := ald2 K X (asI_s hg) hd hp k
theorem ld3 (K : Cx p l e R s m meth c Z a0 W own nm bytes ml rt) (X : On p l e R s m args below meth c D Z n0 T A cells slots) {a : Nat} {j : Int32} {v : Int64} (hg : asJ (h_aget A 3 a j) = some v) (hd : decode bytes pc = .ok (.laload, 1))
    {pc' : Nat} (hp : pc + 1 = pc') (k : Go p e below (T.setTop (mkF m pc' Ls (.long v :: st))) G) : Go p e below (T.setTop (mkF m pc Ls (.int j :: .ref (n0 + a) :: st))) G := ald3 K X (asJ_s hg) hd hp k
theorem ld4 (K : Cx p l e R s m meth c Z a0 W own nm bytes ml rt) (X : On p l e R s m args below meth c D Z n0 T A cells slots) {a : Nat} {j : Int32} {v : Int32} (hg : asI (h_aget A 4 a j) = some v) (hd : decode bytes pc = .ok (.baload, 1))
    {pc' : Nat} (hp : pc + 1 = pc') (k : Go p e below (T.setTop (mkF m pc' Ls (.int v :: st))) G) : Go p e below (T.setTop (mkF m pc Ls (.int j :: .ref (n0 + a) :: st))) G := ald4 K X (asI_s hg) hd hp k
theorem ast0 (K : Cx p l e R s m meth c Z a0 W own nm bytes ml rt) (X : On p l e R s m args below meth c D Z n0 T A cells slots) {a : Nat} {j x : Int32} (hp : h_aset A 0 a j (.int x) = some A') (hd : decode bytes pc = .ok (.iastore, 1))
    {pc' : Nat} (hp : pc + 1 = pc') (k : ∀ T', On p l e R s m args below meth c D Z n0 T' A' cells slots → Go p e below (T'.setTop (mkF m pc'  Ls st)) G) : Go p e below (T.setTop (mkF m pc Ls (.int x :: .int j :: .ref (n0 + a) :: st))) G := by
  subst hp
  obtain ⟨locs, X, N, RA⟩ := X
  obtain ⟨cl, h1, h2⟩ := RA.into (by decide) hp
  obtain ⟨T', h', X', e', W', stp⟩ := stI X K.1 K.2.1 rfl h1 h2 (g := mkF m pc Ls (.int x :: .int j :: .ref (n0 + a) :: st)) rfl rfl (dc K hd)
  exact go stp (k T' ⟨_, X', Fr.snoc X' N (Nat.le_add_right _ _), by rw [e']; exact RA.wrA (by decide) hp rfl W'⟩)
theorem ast1 (K : Cx p l e R s m meth c Z a0 W own nm bytes ml rt) (X : On p l e R s m args below meth c D Z n0 T A cells slots) {a : Nat} {j x : Int32} (hp : h_aset A 1 a j (.int (nar .char x)) = some A') (hd : decode bytes pc = .ok (.castore, 1))
    {pc' : Nat} (hp : pc + 1 = pc') (k : ∀ T', On p l e R s m args below meth c D Z n0 T' A' cells slots → Go p e below (T'.setTop (mkF m pc'  Ls st)) G) : Go p e below (T.setTop (mkF m pc Ls (.int x :: .int j :: .ref (n0 + a) :: st))) G := by
  subst hp
  obtain ⟨locs, X, N, RA⟩ := X
  obtain ⟨cl, h1, h2⟩ := RA.into (by decide) hp
  obtain ⟨T', h', X', e', W', stp⟩ := stC X K.1 K.2.1 rfl h1 h2 (g := mkF m pc Ls (.int x :: .int j :: .ref (n0 + a) :: st)) rfl rfl (dc K hd)
  exact go stp (k T' ⟨_, X', Fr.snoc X' N (Nat.le_add_right _ _), by rw [e']; exact RA.wrA (by decide) hp (fits_nar_char _) W'⟩)
theorem ast2 (K : Cx p l e R s m meth c Z a0 W own nm bytes ml rt) (X : On p l e R s m args below meth c D Z n0 T A cells slots) {a : Nat} {j x : Int32} (hp : h_aset A 2 a j (.int (nar .byte x)) = some A') (hd : decode bytes pc = .ok (.bastore, 1))
    {pc' : Nat} (hp : pc + 1 = pc') (k : ∀ T', On p l e R s m args below meth c D Z n0 T' A' cells slots → Go p e below (T'.setTop (mkF m pc'  Ls st)) G) : Go p e below (T.setTop (mkF m pc Ls (.int x :: .int j :: .ref (n0 + a) :: st))) G := by
  subst hp
  obtain ⟨locs, X, N, RA⟩ := X
  obtain ⟨cl, h1, h2⟩ := RA.into (by decide) hp
  obtain ⟨T', h', X', e', W', stp⟩ := stB X K.1 K.2.1 rfl h1 h2 (g := mkF m pc Ls (.int x :: .int j :: .ref (n0 + a) :: st)) rfl rfl (dc K hd)
  exact go stp (k T' ⟨_, X', Fr.snoc X' N (Nat.le_add_right _ _), by rw [e']; exact RA.wrA (by decide) hp (fits_nar_byte _) W'⟩)
theorem ast3 (K : Cx p l e R s m meth c Z a0 W own nm bytes ml rt) (X : On p l e R s m args below meth c D Z n0 T A cells slots) {a : Nat} {j : Int32} {x : Int64} (hp : h_aset A 3 a j (.long x) = some A') (hd : decode bytes pc = .ok (.lastore, 1))
    {pc' : Nat} (hp : pc + 1 = pc') (k : ∀ T', On p l e R s m args below meth c D Z n0 T' A' cells slots → Go p e below (T'.setTop (mkF m pc'  Ls st)) G) : Go p e below (T.setTop (mkF m pc Ls (.long x :: .int j :: .ref (n0 + a) :: st))) G := by
  subst hp
  obtain ⟨locs, X, N, RA⟩ := X
  obtain ⟨cl, h1, h2⟩ := RA.into (by decide) hp
  obtain ⟨T', h', X', e', W', stp⟩ := stJ X K.1 K.2.1 rfl h1 h2 (g := mkF m pc Ls (.long x :: .int j :: .ref (n0 + a) :: st)) rfl rfl (dc K hd)
  exact go stp (k T' ⟨_, X', Fr.snoc X' N (Nat.le_add_right _ _), by rw [e']; exact RA.wrA (by decide) hp rfl W'⟩)
theorem ast4 (K : Cx p l e R s m meth c Z a0 W own nm bytes ml rt) (X : On p l e R s m args below meth c D Z n0 T A cells slots) {a : Nat} {j x : Int32} (hp : h_aset A 4 a j (.int (nar .boolean x)) = some A') (hd : decode bytes pc = .ok (.bastore, 1))
    {pc' : Nat} (hp : pc + 1 = pc') (k : ∀ T', On p l e R s m args below meth c D Z n0 T' A' cells slots → Go p e below (T'.setTop (mkF m pc'  Ls st)) G) : Go p e below (T.setTop (mkF m pc Ls (.int x :: .int j :: .ref (n0 + a) :: st))) G := by
  subst hp
  obtain ⟨locs, X, N, RA⟩ := X
  obtain ⟨cl, h1, h2⟩ := RA.into (by decide) hp
  obtain ⟨T', h', X', e', W', stp⟩ := stZ X K.1 K.2.1 rfl h1 h2 (g := mkF m pc Ls (.int x :: .int j :: .ref (n0 + a) :: st)) rfl rfl (dc K hd)
  exact go stp (k T' ⟨_, X', Fr.snoc X' N (Nat.le_add_right _ _), by rw [e']; exact RA.wrA (by decide) hp (fits_nar_bool _) W'⟩)
/-! calls -/
theorem obj (K : Cx p l e R s m meth c Z a0 W own nm bytes ml rt) (X : On p l e R s m args below meth c D Z n0 T A cells slots) {i1 i2 i3 idx w : Nat} {a : Addr} (w1 : W[i1]? = some (.methodLink own idx Lib.objectInit)) (w2 : W[i2]? = some (.instanceMethod Lib.objectInit)) (w3 : W[i3]? = some (.code Lib.objectInit ⟨#[0xb1]⟩ 1 none))
    (hd : decode bytes pc = .ok (.invokespecial idx, 3)) (hz : Ls.size = ml) (hf : 1 ≤ R.frames) (hw : (st.map fun v => v.category).sum ≤ w) (hl : w + 12 ≤ R.locals)
    {pc' : Nat} (hp : pc + 3 = pc') (k : ∀ T', On p l e R s m args below meth c D Z n0 T' A cells slots → Go p e below (T'.setTop (mkF m pc'  Ls st)) G) : Go p e below (T.setTop (mkF m pc Ls (.ref a :: st))) G := by
  subst hp
  obtain ⟨locs, X, N, RA⟩ := X
  obtain ⟨T', X', e', stp⟩ := initO X K.1 K.2.1 K.2.2.1 (wd K w1) (wd K w2) (wd K w3) rfl (g := mkF m pc Ls (.ref a :: st)) rfl (hz.trans K.2.2.2.2.1.symm) rfl (dc K hd) hf (W := w) (by simpa [JFrame.monitorRoom] using hw) hl
  exact go stp (k T' ⟨locs, X', N, by rw [e']; exact RA⟩)
theorem calls (K : Cx p l e R s m meth c Z a0 W own nm bytes ml rt) (X : On p l e R s m args below meth c D Z n0 T A cells slots) {i1 i2 i3 i4 idx w : Nat} {y : MethodName} {by' : ByteArray} {ml' : Nat} {rt' : Option FieldType} {rm : Room} {as : List Value} {r : Option Value} {S : List Value} {ps : List FieldType}
    (w1 : W[i1]? = some (.methodLink own idx y)) (w2 : W[i2]? = some (.static y)) (w3 : W[i3]? = some (.initialized y.cls)) (w4 : W[i4]? = some (.code y by' ml' rt')) (hy : y.cls ≠ "java/lang/invoke/MethodHandle" ∧ y.cls ≠ "java/lang/invoke/VarHandle")
    (M : Met l D Z n0 y by' ml' rt' rm as A r A') (hpd : parseMethodDescriptor y.desc = some ⟨ps, rt'⟩) (hlen : as.length = ps.length) (hd : decode bytes pc = .ok (.invokestatic idx, 3)) (hz : Ls.size = ml) (hS : S = as.reverse ++ st)
    (hf : rm.frames + 1 ≤ R.frames) (hw : (st.map fun v => v.category).sum ≤ w) (hl : w + (ml' + 11) + rm.locals ≤ R.locals) (hc : cells + rm.cells ≤ R.cells) (hs : slots + rm.slots ≤ R.slots)
    {pc' kc ks : Nat} {S' : List Value} (ec : cells + rm.cells = kc) (es : slots + rm.slots = ks) (hS' : r.toList ++ st = S') (hp : pc + 3 = pc') (k : ∀ T', On p l e R s m args below meth c D Z n0 T' A' kc ks → Go p e below (T'.setTop (mkF m pc' Ls S')) G) : Go p e below (T.setTop (mkF m pc Ls S)) G := by
  subst hp ec es hS'
  obtain ⟨locs, X, N, RA⟩ := X
  obtain ⟨v, vm, ⟨T', L', k', n'⟩, -, X', ⟨Lc, hQ, q1, q2, q3⟩, stp⟩ := Jvm.LawKit.callS X K.1 K.2.2.1 (mvT K.2.1 (wd K w1)) (mvT K.2.1 (wd K w2)) (mvT K.2.1 (wd K w3)) (mvT K.2.1 (wd K w4)) hy
    (backOf (W := w) (M [] T.heap RA) K.2.1 (wd K w4) (wd K w3) hf hl) (g := mkF m pc Ls S) rfl (hz.trans K.2.2.2.2.1.symm) (argsL := as) (rest := st) (lenOf hpd hlen) hS (by simpa [JFrame.monitorRoom] using hw) (dc K hd) (fun _ _ => ⟨rfl, rfl, hc, hs⟩)
  dsimp only [Pt.U, Pt.locs, Pt.cells, Pt.slots] at X' q1 q2 q3 hQ stp
  subst q1 q2 q3
  obtain ⟨rfl, N', RA'⟩ := hQ
  exact go stp (k T' ⟨_, X', Fr.app N N', RA'⟩)
theorem calli (K : Cx p l e R s m meth c Z a0 W own nm bytes ml rt) (X : On p l e R s m args below meth c D Z n0 T A cells slots) {i1 i2 i3 i4 idx w : Nat} {y : MethodName} {by' : ByteArray} {ml' : Nat} {rm : Room} {a : Addr} {as : List Value} {S : List Value} {ps : List FieldType}
    (w1 : W[i1]? = some (.methodLink own idx y)) (w2 : W[i2]? = some (.instanceMethod y)) (w3 : W[i3]? = some (.initialized y.cls)) (w4 : W[i4]? = some (.code y by' ml' none)) (hy1 : y.name = "<init>") (hy : y.cls ≠ "java/lang/invoke/MethodHandle" ∧ y.cls ≠ "java/lang/invoke/VarHandle")
    (M : Met l D Z n0 y by' ml' none rm (.ref a :: as) A none A') (hpd : parseMethodDescriptor y.desc = some ⟨ps, none⟩) (hlen : as.length = ps.length) (hd : decode bytes pc = .ok (.invokespecial idx, 3)) (hz : Ls.size = ml) (hS : S = as.reverse ++ .ref a :: st)
    (hf : rm.frames + 1 ≤ R.frames) (hw : (st.map fun v => v.category).sum ≤ w) (hl : w + (ml' + 11) + rm.locals ≤ R.locals) (hc : cells + rm.cells ≤ R.cells) (hs : slots + rm.slots ≤ R.slots)
    {pc' kc ks : Nat} (ec : cells + rm.cells = kc) (es : slots + rm.slots = ks) (hp : pc + 3 = pc') (k : ∀ T', On p l e R s m args below meth c D Z n0 T' A' kc ks → Go p e below (T'.setTop (mkF m pc'  Ls st)) G) : Go p e below (T.setTop (mkF m pc Ls S)) G := by
  subst hp ec es
  obtain ⟨locs, X, N, RA⟩ := X
  obtain ⟨v, vm, ⟨T', L', k', n'⟩, -, X', ⟨Lc, hQ, q1, q2, q3⟩, stp⟩ := X.specialBack K.1 hy1 K.2.2.1 (mvT K.2.1 (wd K w1)) (mvT K.2.1 (wd K w2)) (mvT K.2.1 (wd K w4)) hy
    (backOf (W := w) (M [] T.heap RA) K.2.1 (wd K w4) (wd K w3) hf hl) (g := mkF m pc Ls S) rfl (hz.trans K.2.2.2.2.1.symm) (Steps.refl _) (a := a) (argsL := as) (rest := st) (lenOf hpd hlen) hS (by simpa [JFrame.monitorRoom] using hw) (dc K hd) (fun _ _ => ⟨rfl, rfl, hc, hs⟩)
  dsimp only [Pt.U, Pt.locs, Pt.cells, Pt.slots] at X' q1 q2 q3 hQ stp
  subst q1 q2 q3
  obtain ⟨rfl, N', RA'⟩ := hQ
  exact go (fun _ q => stp.trans q) (k T' ⟨_, X', Fr.app N N', RA'⟩)
theorem callv (K : Cx p l e R s m meth c Z a0 W own nm bytes ml rt) (X : On p l e R s m args below meth c D Z n0 T A cells slots) {i1 i2 i3 i4 i5 i6 idx w t a : Nat} {u : Unit} {y : MethodName} {by' : ByteArray} {ml' : Nat} {rt' : Option FieldType} {rm : Room} {as : List Value} {r : Option Value} {S : List Value} {ps : List FieldType}
    (w1 : W[i1]? = some (.methodLink own idx y)) (w2 : W[i2]? = some (.declares y)) (w5 : W[i5]? = some (.selects (D t).1 y y)) (w6 : W[i6]? = some (.instanceMethod y)) (w3 : W[i3]? = some (.initialized y.cls)) (w4 : W[i4]? = some (.code y by' ml' rt')) (hy : y.cls ≠ "java/lang/invoke/MethodHandle" ∧ y.cls ≠ "java/lang/invoke/VarHandle")
    (ht : 10 ≤ t) (hA : h_isA A t a = some u) (M : Met l D Z n0 y by' ml' rt' rm (.ref (n0 + a) :: as) A r A') (hpd : parseMethodDescriptor y.desc = some ⟨ps, rt'⟩) (hlen : as.length = ps.length) (hd : decode bytes pc = .ok (.invokevirtual idx, 3)) (hz : Ls.size = ml) (hS : S = as.reverse ++ .ref (n0 + a) :: st)
    (hf : rm.frames + 1 ≤ R.frames) (hw : (st.map fun v => v.category).sum ≤ w) (hl : w + (ml' + 11) + rm.locals ≤ R.locals) (hc : cells + rm.cells ≤ R.cells) (hs : slots + rm.slots ≤ R.slots)
    {pc' kc ks : Nat} {S' : List Value} (ec : cells + rm.cells = kc) (es : slots + rm.slots = ks) (hS' : r.toList ++ st = S') (hp : pc + 3 = pc') (k : ∀ T', On p l e R s m args below meth c D Z n0 T' A' kc ks → Go p e below (T'.setTop (mkF m pc' Ls S')) G) : Go p e below (T.setTop (mkF m pc Ls S)) G := by
  subst hp ec es hS'
  obtain ⟨locs, X, N, RA⟩ := X
  obtain ⟨vs, hA⟩ := isA_s hA
  obtain ⟨cq, kq, q1, q2, q3⟩ := isOf K.2.1 rfl (RA.exa ht hA)
  obtain ⟨v, vm, ⟨T', L', k', n'⟩, -, X', ⟨Lc, hQ, q1, q2, q3⟩, stp⟩ := X.virtualBack K.1 (y := y) (z := y) K.2.2.1 (mvT K.2.1 (wd K w1)) (mvT K.2.1 (wd K w2)) (notFace_of_selects (args := #[]) (mvT K.2.1 (wd K w5))) (mvT K.2.1 (wd K w5)) (mvT K.2.1 (wd K w6)) hy
    (backOf (W := w) (M [] T.heap RA) K.2.1 (wd K w4) (wd K w3) hf hl) q1 q3 (g := mkF m pc Ls S) rfl (hz.trans K.2.2.2.2.1.symm) (Steps.refl _) (argsL := as) (rest := st) (lenOf hpd hlen) hS (by simpa [JFrame.monitorRoom] using hw) (dc K hd) (fun _ _ => ⟨rfl, rfl, hc, hs⟩)
  dsimp only [Pt.U, Pt.locs, Pt.cells, Pt.slots] at X' q1 q2 q3 hQ stp
  subst q1 q2 q3
  obtain ⟨rfl, N', RA'⟩ := hQ
  exact go (fun _ q => stp.trans q) (k T' ⟨_, X', Fr.app N N', RA'⟩)
theorem callp (K : Cx p l e R s m meth c Z a0 W own nm bytes ml rt) (X : On p l e R s m args below meth c D Z n0 T A cells slots) {i1 i2 i3 i4 i5 i6 idx w t a kk : Nat} {u : Unit} {y : MethodName} {by' : ByteArray} {ml' : Nat} {rt' : Option FieldType} {rm : Room} {as : List Value} {r : Option Value} {S : List Value} {ps : List FieldType}
    (w1 : W[i1]? = some (.methodLink own idx y)) (w2 : W[i2]? = some (.privateMethod y)) (w5 : W[i5]? = some (.instantiable y.cls kk)) (w6 : W[i6]? = some (.instanceMethod y)) (w3 : W[i3]? = some (.initialized y.cls)) (w4 : W[i4]? = some (.code y by' ml' rt')) (hy : y.cls ≠ "java/lang/invoke/MethodHandle" ∧ y.cls ≠ "java/lang/invoke/VarHandle")
    (ht : 10 ≤ t) (hA : h_isA A t a = some u) (M : Met l D Z n0 y by' ml' rt' rm (.ref (n0 + a) :: as) A r A') (hpd : parseMethodDescriptor y.desc = some ⟨ps, rt'⟩) (hlen : as.length = ps.length) (hd : decode bytes pc = .ok (.invokevirtual idx, 3)) (hz : Ls.size = ml) (hS : S = as.reverse ++ .ref (n0 + a) :: st)
    (hf : rm.frames + 1 ≤ R.frames) (hw : (st.map fun v => v.category).sum ≤ w) (hl : w + (ml' + 11) + rm.locals ≤ R.locals) (hc : cells + rm.cells ≤ R.cells) (hs : slots + rm.slots ≤ R.slots)
    {pc' kc ks : Nat} {S' : List Value} (ec : cells + rm.cells = kc) (es : slots + rm.slots = ks) (hS' : r.toList ++ st = S') (hp : pc + 3 = pc') (k : ∀ T', On p l e R s m args below meth c D Z n0 T' A' kc ks → Go p e below (T'.setTop (mkF m pc' Ls S')) G) : Go p e below (T.setTop (mkF m pc Ls S)) G := by
  subst hp ec es hS'
  obtain ⟨locs, X, N, RA⟩ := X
  obtain ⟨vs, hA⟩ := isA_s hA
  obtain ⟨cq, q1, q2⟩ := (RA.exa ht hA).cell
  have wi : (Jvm.Cond.instantiable y.cls kk).before #[] s = true := mvT K.2.1 (wd K w5)
  obtain ⟨c0, k0, i1, i2, i3, i4, -⟩ := Cond.instantiable_spec wi
  have hni : k0.isInterface = false := (Bool.or_eq_false_iff.mp i4).1
  have hpr : s.PrivateAt y := Cond.privateMethod_at (mvP K.2.1 (wd K w2) (args := #[]))
  have hin : (Jvm.Cond.instanceMethod y).before args s = true := mvT K.2.1 (wd K w6)
  obtain ⟨v, vm, ⟨T', L', k', n'⟩, -, X', ⟨Lc, hQ, q1, q2, q3⟩, stp⟩ := X.privateBack K.1 (y := y) K.2.2.1 (mvT K.2.1 (wd K w1)) hin (selects_self_of_private i1 i2 hni hpr hin hy) hpr (mvT K.2.1 (wd K w4)) hy
    (backOf (W := w) (M [] T.heap RA) K.2.1 (wd K w4) (wd K w3) hf hl) (g := mkF m pc Ls S) rfl (hz.trans K.2.2.2.2.1.symm) (Steps.refl _) (a := n0 + a) q1 q2 (argsL := as) (rest := st) (lenOf hpd hlen) hS (by simpa [JFrame.monitorRoom] using hw) (dc K hd) (fun _ _ => ⟨rfl, rfl, hc, hs⟩)
  dsimp only [Pt.U, Pt.locs, Pt.cells, Pt.slots] at X' q1 q2 q3 hQ stp
  subst q1 q2 q3
  obtain ⟨rfl, N', RA'⟩ := hQ
  exact go (fun _ q => stp.trans q) (k T' ⟨_, X', Fr.app N N', RA'⟩)
theorem acp (K : Cx p l e R s m meth c Z a0 W own nm bytes ml rt) (X : On p l e R s m args below meth c D Z n0 T A cells slots) {i1 i2 i3 i4 idx w t a b : Nat} {sp dp n : Int32} (w1 : W[i1]? = some (.methodLink own idx Jvm.Stand.acN)) (w2 : W[i2]? = some (.native Jvm.Stand.acN)) (w3 : W[i3]? = some (.static Jvm.Stand.acN)) (w4 : W[i4]? = some (.initialized "java/lang/System"))
    (hd : decode bytes pc = .ok (.invokestatic idx, 3)) (hz : Ls.size = ml) (ht : t < 10) (hq : h_acp A t a b sp dp n = some A') (hf : 1 ≤ R.frames) (hw : (st.map fun v => v.category).sum ≤ w) (hl : w + (nativeFrameWords "java/lang/System" "arraycopy" 5 + 11) ≤ R.locals)
    {pc' : Nat} (hp : pc + 3 = pc') (k : ∀ T', On p l e R s m args below meth c D Z n0 T' A' cells slots → Go p e below (T'.setTop (mkF m pc' Ls st)) G) : Go p e below (T.setTop (mkF m pc Ls (.int n :: .int dp :: .ref (n0 + b) :: .int sp :: .ref (n0 + a) :: st))) G := by
  subst hp
  obtain ⟨locs, X, N, RA⟩ := X
  have hZ := K.2.1
  unfold h_acp at hq
  split at hq
  · rename_i t1 vs t2 vd ea eb
    split at hq
    · rename_i q
      obtain ⟨rfl, q2, h1, h2, h3, h4, h5⟩ := q
      cases q2
      cases hq
      obtain ⟨cs, As, ls, -, fs⟩ := RA.arr ht ea
      obtain ⟨cd, Ad, ld, lt, fd⟩ := RA.arr ht eb
      obtain ⟨os, ks, hks, sc, hsk⟩ := State.isArrayOf_alike hZ.alike As.2.1
      obtain ⟨od, kd, hkd, dc', hdk⟩ := State.isArrayOf_alike hZ.alike Ad.2.1
      have ss : cs.slots.size = vs.length := by rw [← Array.length_toList, ls]; simp
      have sd : cd.slots.size = vd.length := by rw [← Array.length_toList, ld]; simp
      have nat : ∀ {x : Int32}, ¬ x < 0 → x.toInt = x.toNatClampNeg := fun {x} q => by
        have := nneg.mp q; rw [nclamp]; omega
      have rk : refKind (aty t1) = false := by unfold aty; split <;> rfl
      have gv : ∀ i, i < n.toNatClampNeg → ∃ u, u ∈ vs.map (lf n0) ∧ cs.slots.getD (sp.toNatClampNeg + i) .null = u ∧ (vs.map (lf n0))[sp.toNatClampNeg + i]? = some u := fun i hi => by
        have lt' : sp.toNatClampNeg + i < (vs.map (lf n0)).length := by rw [List.length_map]; omega
        refine ⟨(vs.map (lf n0))[sp.toNatClampNeg + i], List.getElem_mem lt', ?_, List.getElem?_eq_getElem lt'⟩
        rw [Array.getD_eq_getD_getElem?, ← Array.getElem?_toList, ls, List.getElem?_eq_getElem lt']; rfl
      have hmr : 2 * (mkF m pc Ls (.int n :: .int dp :: .ref (n0 + b) :: .int sp :: .ref (n0 + a) :: st)).monitorRoom + (st.map fun v => v.category).sum + (nativeFrameWords "java/lang/System" "arraycopy" 5 + 11) ≤ R.locals := by
        have e0 : (mkF m pc Ls (.int n :: .int dp :: .ref (n0 + b) :: .int sp :: .ref (n0 + a) :: st)).monitorRoom = 0 := by simp [JFrame.monitorRoom]
        rw [e0]; omega
      obtain ⟨vm₁, hW₁, X', stp⟩ := X.arraycopyK K.1 K.2.2.1 (mvT hZ (wd K w1)) (mvT hZ (wd K w2)) (mvT hZ (wd K w3)) (mvT hZ (wd K w4)) As.1 Ad.1 os od As.2.2 Ad.2.2 hks hkd hsk hdk (by simp [rk]) h1 h2 h3 (by rw [nat h1, nat h3, ss]; omega) (by rw [nat h2, nat h3, sd]; omega)
        (fun vm₁ hw' i hi => by
          obtain ⟨u, mu, eu, -⟩ := gv i hi
          rw [eu]
          refine ⟨fs u mu, ?_⟩
          have q := fs u mu
          cases u <;> try trivial
          exact (prim_no_ref rk q).elim) (g := mkF m pc Ls (.int n :: .int dp :: .ref (n0 + b) :: .int sp :: .ref (n0 + a) :: st)) rfl (hz.trans K.2.2.2.2.1.symm) rfl (dc K hd) hf hmr
      refine go stp (k _ ⟨_, X', Fr.app N (fun y hy => ?_), ?_⟩)
      · simp only [copyLocs, List.mem_map] at hy
        obtain ⟨i, -, rfl⟩ := hy
        exact Nat.le_add_right _ _
      · have cf := Cell.storeRun_facts cd dp.toNatClampNeg (cs.stretch sp.toNatClampNeg n.toNatClampNeg)
        have sl : (cs.stretch sp.toNatClampNeg n.toNatClampNeg).length = n.toNatClampNeg := Cell.stretch_length cs sp.toNatClampNeg n.toNatClampNeg
        have es : cs.stretch sp.toNatClampNeg n.toNatClampNeg = ((vs.drop sp.toNatClampNeg).take n.toNatClampNeg).map (lf n0) := by
          apply List.ext_getElem?
          intro i
          by_cases hi : i < n.toNatClampNeg
          · obtain ⟨u, -, eu, eu2⟩ := gv i hi
            rw [List.map_take, List.map_drop, List.getElem?_take_of_lt hi, List.getElem?_drop, eu2]
            show ((List.range n.toNatClampNeg).map fun i => cs.slots.getD (sp.toNatClampNeg + i) .null)[i]? = _
            rw [List.getElem?_map, List.getElem?_range hi, Option.map_some, eu]
          · rw [List.getElem?_eq_none (by omega), List.getElem?_eq_none (by rw [List.length_map, List.length_take]; omega)]
        have hlt : n0 + b < T.heap.size := Ad.lt
        have hc : (T.heap.setIfInBounds (n0 + b) (copied cs cd sp dp n))[n0 + b]? = some (copied cs cd sp dp n) := Array.getElem?_setIfInBounds_self_of_lt hlt
        show Rep D Z n0 (T.heap.setIfInBounds (n0 + b) (copied cs cd sp dp n)) _
        refine RA.cell (List.getElem?_eq_some_iff.mp eb).1 ⟨fun _ => ⟨copied cs cd sp dp n, ⟨hc, ?_, ?_⟩, ?_, ?_, ?_⟩, fun z => absurd ht (by omega)⟩
        · obtain ⟨o1, k1, g1, g2⟩ := Ad.2.1
          exact ⟨fun q z => o1 q (cf.2.1 ▸ z), k1, by show Z.vm.classes[(cd.storeRun _ _).cls]? = _; rw [cf.1]; exact g1, g2⟩
        · exact fun z => Ad.2.2 (cf.2.1 ▸ z)
        · have ml' : (((vs.drop sp.toNatClampNeg).take n.toNatClampNeg).map (lf n0)).length = n.toNatClampNeg := by rw [← es]; exact sl
          have tl : ((vd.take dp.toNatClampNeg).map (lf n0)).length = dp.toNatClampNeg := by rw [List.length_map, List.length_take]; omega
          apply List.ext_getElem?
          intro j
          rw [Array.getElem?_toList]
          show (cd.storeRun dp.toNatClampNeg (cs.stretch sp.toNatClampNeg n.toNatClampNeg)).slots[j]? = _
          rw [Cell.storeRun_get _ _ _ _ (by rw [sl, sd]; exact h5), sl, es, List.map_append, List.map_append]
          by_cases c1 : j < dp.toNatClampNeg
          · rw [if_neg (by omega), List.append_assoc, List.getElem?_append_left (by omega), List.map_take, List.getElem?_take_of_lt c1, ← ld, Array.getElem?_toList]
          · by_cases c2 : j < dp.toNatClampNeg + n.toNatClampNeg
            · rw [if_pos ⟨by omega, c2⟩, List.getElem?_append_left (by rw [List.length_append]; omega), List.getElem?_append_right (by omega), tl]
            · rw [if_neg (by omega), List.getElem?_append_right (by rw [List.length_append]; omega), List.length_append, tl, ml', List.map_drop, List.getElem?_drop, ← ld, Array.getElem?_toList]
              congr 1; omega
        · simp only [List.length_map, List.length_append, List.length_take, List.length_drop]; omega
        · intro u hu
          simp only [List.map_append, List.map_take, List.map_drop, List.mem_append] at hu
          rcases hu with (hu | hu) | hu
          · exact fd u (List.mem_of_mem_take hu)
          · exact fs u (List.mem_of_mem_drop (List.mem_of_mem_take hu))
          · exact fd u (List.mem_of_mem_drop hu)
    · cases hq
  · cases hq
/-! a body by its blocks -/
theorem met {y : MethodName} {as : List Value} {r : Option Value} {L0 : Array Slot} (hp : plainFor y = true) (hw : ∀ d ∈ W, d.before a0 Z = true) (hn : y.cls = own) (hnn : y.name = nm) (hef : ∀ m, entryFrame m as.toArray ml = mkF m 0 L0 [])
    (hb : ∀ (p : Program) (e : Env) (s : State) (m : MethodId) (below : List Frame) (meth : Method) (c : Code) (T : State), Cx p l e R s m meth c Z a0 W own nm bytes ml rt → On p l e R s m as.toArray below meth c D Z n0 T A 0 0 → Go p e below (T.setTop (mkF m 0 L0 [])) (Fini D Z n0 s R r A')) :
    Met l D Z n0 y bytes ml rt R as A r A' := by
  intro ws h0 RA
  refine MetFree.of_bodySF hp hisR ?_
  intro p e s m args below meth c s₁ Bd hml0 hP hK
  obtain ⟨rfl, hZ, hh⟩ := hP
  have hown : s.vm.findClass own = some m.cls := hn ▸ findClass_of_methodNamed Bd.named
  have hnm := (name_of_methodNamed Bd.named Bd.method).1
  have X0 : Stand p l e R s m as.toArray below meth c s₁ [] 0 0 := Stand.of_body Bd
  have e0 : s₁.heap = h0 := by rw [← hh, Bd.state]; rfl
  have := hb p e s m below meth c s₁ ⟨Bd.exec, hZ, hown, Bd.bytes, hml0, Bd.returns, Bd.notSynchronized, hnm.trans hnn, hw⟩ ⟨[], X0, Fr.nil n0, by rw [e0]; exact RA⟩
  obtain ⟨t, o, h1, h2, h3, h4⟩ := this
  exact ⟨t, o, castTop (hef m) h1, h2, h3, h4⟩
end Walk
end Jvm.OwnKit
namespace Jvm.OwnKit
open Sem ClassFile Op Lib Jvm.Stand Jvm.Free Jvm.LawKit Jvm.RoadKit
section Instr
variable {p : Program} {l : Launch} {e : Env} {R : Room} {s : State} {m : MethodId} {args : Array Value} {below : List Frame} {meth : Method} {c : Code} {Z : State} {a0 : Array Value} {W : List Jvm.Cond} {own nm : String} {bytes : ByteArray} {ml : Nat} {rt : Option FieldType} {D : Dic} {n0 : Nat} {T : State} {A A' : AH} {cells slots : Nat} {G : Outcome → State → Prop} {pc : Nat} {Ls : Array Slot} {st : List Value}
theorem i_iadd (K : Cx p l e R s m meth c Z a0 W own nm bytes ml rt) (X : On p l e R s m args below meth c D Z n0 T A cells slots) {x y : Int32} {pc' : Nat} (hd : decode bytes pc = .ok (.iadd, 1)) (hp : pc + 1 = pc')
    (k : Go p e below (T.setTop (mkF m pc' Ls (.int (x + y) :: st))) G) : Go p e below (T.setTop (mkF m pc Ls (.int y :: .int x :: st))) G := by
  subst hp; exact go (fun _ => XS.iadd X.here K.1 (g := mkF m pc Ls (.int y :: .int x :: st)) rfl (dc K hd) rfl) k
theorem i_isub (K : Cx p l e R s m meth c Z a0 W own nm bytes ml rt) (X : On p l e R s m args below meth c D Z n0 T A cells slots) {x y : Int32} {pc' : Nat} (hd : decode bytes pc = .ok (.isub, 1)) (hp : pc + 1 = pc')
    (k : Go p e below (T.setTop (mkF m pc' Ls (.int (x - y) :: st))) G) : Go p e below (T.setTop (mkF m pc Ls (.int y :: .int x :: st))) G := by
  subst hp; exact go (fun _ => XS.isub X.here K.1 (g := mkF m pc Ls (.int y :: .int x :: st)) rfl (dc K hd) rfl) k
theorem i_imul (K : Cx p l e R s m meth c Z a0 W own nm bytes ml rt) (X : On p l e R s m args below meth c D Z n0 T A cells slots) {x y : Int32} {pc' : Nat} (hd : decode bytes pc = .ok (.imul, 1)) (hp : pc + 1 = pc')
    (k : Go p e below (T.setTop (mkF m pc' Ls (.int (x * y) :: st))) G) : Go p e below (T.setTop (mkF m pc Ls (.int y :: .int x :: st))) G := by
  subst hp; exact go (fun _ => XS.imul X.here K.1 (g := mkF m pc Ls (.int y :: .int x :: st)) rfl (dc K hd) rfl) k
theorem i_iand (K : Cx p l e R s m meth c Z a0 W own nm bytes ml rt) (X : On p l e R s m args below meth c D Z n0 T A cells slots) {x y : Int32} {pc' : Nat} (hd : decode bytes pc = .ok (.iand, 1)) (hp : pc + 1 = pc')
    (k : Go p e below (T.setTop (mkF m pc' Ls (.int (x &&& y) :: st))) G) : Go p e below (T.setTop (mkF m pc Ls (.int y :: .int x :: st))) G := by
  subst hp; exact go (fun _ => XS.iand X.here K.1 (g := mkF m pc Ls (.int y :: .int x :: st)) rfl (dc K hd) rfl) k
theorem i_ior (K : Cx p l e R s m meth c Z a0 W own nm bytes ml rt) (X : On p l e R s m args below meth c D Z n0 T A cells slots) {x y : Int32} {pc' : Nat} (hd : decode bytes pc = .ok (.ior, 1)) (hp : pc + 1 = pc')
    (k : Go p e below (T.setTop (mkF m pc' Ls (.int (x ||| y) :: st))) G) : Go p e below (T.setTop (mkF m pc Ls (.int y :: .int x :: st))) G := by
  subst hp; exact go (fun _ => XS.ior X.here K.1 (g := mkF m pc Ls (.int y :: .int x :: st)) rfl (dc K hd) rfl) k
theorem i_ixor (K : Cx p l e R s m meth c Z a0 W own nm bytes ml rt) (X : On p l e R s m args below meth c D Z n0 T A cells slots) {x y : Int32} {pc' : Nat} (hd : decode bytes pc = .ok (.ixor, 1)) (hp : pc + 1 = pc')
    (k : Go p e below (T.setTop (mkF m pc' Ls (.int (x ^^^ y) :: st))) G) : Go p e below (T.setTop (mkF m pc Ls (.int y :: .int x :: st))) G := by
  subst hp; exact go (fun _ => XS.ixor X.here K.1 (g := mkF m pc Ls (.int y :: .int x :: st)) rfl (dc K hd) rfl) k
theorem i_ishl (K : Cx p l e R s m meth c Z a0 W own nm bytes ml rt) (X : On p l e R s m args below meth c D Z n0 T A cells slots) {x y : Int32} {pc' : Nat} (hd : decode bytes pc = .ok (.ishl, 1)) (hp : pc + 1 = pc')
    (k : Go p e below (T.setTop (mkF m pc' Ls (.int (x <<< (y &&& 31)) :: st))) G) : Go p e below (T.setTop (mkF m pc Ls (.int y :: .int x :: st))) G := by
  subst hp; exact go (fun _ => XS.ishl X.here K.1 (g := mkF m pc Ls (.int y :: .int x :: st)) rfl (dc K hd) rfl) k
theorem i_ishr (K : Cx p l e R s m meth c Z a0 W own nm bytes ml rt) (X : On p l e R s m args below meth c D Z n0 T A cells slots) {x y : Int32} {pc' : Nat} (hd : decode bytes pc = .ok (.ishr, 1)) (hp : pc + 1 = pc')
    (k : Go p e below (T.setTop (mkF m pc' Ls (.int (x >>> (y &&& 31)) :: st))) G) : Go p e below (T.setTop (mkF m pc Ls (.int y :: .int x :: st))) G := by
  subst hp; exact go (fun _ => XS.ishr X.here K.1 (g := mkF m pc Ls (.int y :: .int x :: st)) rfl (dc K hd) rfl) k
theorem i_iushr (K : Cx p l e R s m meth c Z a0 W own nm bytes ml rt) (X : On p l e R s m args below meth c D Z n0 T A cells slots) {x y : Int32} {pc' : Nat} (hd : decode bytes pc = .ok (.iushr, 1)) (hp : pc + 1 = pc')
    (k : Go p e below (T.setTop (mkF m pc' Ls (.int ((x.toUInt32 >>> (y &&& 31).toUInt32).toInt32) :: st))) G) : Go p e below (T.setTop (mkF m pc Ls (.int y :: .int x :: st))) G := by
  subst hp; exact go (fun _ => XS.iushr X.here K.1 (g := mkF m pc Ls (.int y :: .int x :: st)) rfl (dc K hd) rfl) k
theorem i_idiv (K : Cx p l e R s m meth c Z a0 W own nm bytes ml rt) (X : On p l e R s m args below meth c D Z n0 T A cells slots) {x y : Int32} {pc' : Nat} (hd : decode bytes pc = .ok (.idiv, 1)) (hp : pc + 1 = pc') (hy : y ≠ 0)
    (k : Go p e below (T.setTop (mkF m pc' Ls (.int (x / y) :: st))) G) : Go p e below (T.setTop (mkF m pc Ls (.int y :: .int x :: st))) G := by
  subst hp; exact go (fun _ => XS.idiv X.here K.1 (g := mkF m pc Ls (.int y :: .int x :: st)) rfl (dc K hd) rfl hy) k
theorem i_irem (K : Cx p l e R s m meth c Z a0 W own nm bytes ml rt) (X : On p l e R s m args below meth c D Z n0 T A cells slots) {x y : Int32} {pc' : Nat} (hd : decode bytes pc = .ok (.irem, 1)) (hp : pc + 1 = pc') (hy : y ≠ 0)
    (k : Go p e below (T.setTop (mkF m pc' Ls (.int (x % y) :: st))) G) : Go p e below (T.setTop (mkF m pc Ls (.int y :: .int x :: st))) G := by
  subst hp; rw [← irem_eq_mod] at k; exact go (fun _ => XS.irem X.here K.1 (g := mkF m pc Ls (.int y :: .int x :: st)) rfl (dc K hd) rfl hy) k
theorem i_ladd (K : Cx p l e R s m meth c Z a0 W own nm bytes ml rt) (X : On p l e R s m args below meth c D Z n0 T A cells slots) {x y : Int64} {pc' : Nat} (hd : decode bytes pc = .ok (.ladd, 1)) (hp : pc + 1 = pc')
    (k : Go p e below (T.setTop (mkF m pc' Ls (.long (x + y) :: st))) G) : Go p e below (T.setTop (mkF m pc Ls (.long y :: .long x :: st))) G := by
  subst hp; exact go (fun _ => XS.ladd X.here K.1 (g := mkF m pc Ls (.long y :: .long x :: st)) rfl (dc K hd) rfl) k
theorem i_lsub (K : Cx p l e R s m meth c Z a0 W own nm bytes ml rt) (X : On p l e R s m args below meth c D Z n0 T A cells slots) {x y : Int64} {pc' : Nat} (hd : decode bytes pc = .ok (.lsub, 1)) (hp : pc + 1 = pc')
    (k : Go p e below (T.setTop (mkF m pc' Ls (.long (x - y) :: st))) G) : Go p e below (T.setTop (mkF m pc Ls (.long y :: .long x :: st))) G := by
  subst hp; exact go (fun _ => XS.lsub X.here K.1 (g := mkF m pc Ls (.long y :: .long x :: st)) rfl (dc K hd) rfl) k
theorem i_lmul (K : Cx p l e R s m meth c Z a0 W own nm bytes ml rt) (X : On p l e R s m args below meth c D Z n0 T A cells slots) {x y : Int64} {pc' : Nat} (hd : decode bytes pc = .ok (.lmul, 1)) (hp : pc + 1 = pc')
    (k : Go p e below (T.setTop (mkF m pc' Ls (.long (x * y) :: st))) G) : Go p e below (T.setTop (mkF m pc Ls (.long y :: .long x :: st))) G := by
  subst hp; exact go (fun _ => XS.lmul X.here K.1 (g := mkF m pc Ls (.long y :: .long x :: st)) rfl (dc K hd) rfl) k
theorem i_land (K : Cx p l e R s m meth c Z a0 W own nm bytes ml rt) (X : On p l e R s m args below meth c D Z n0 T A cells slots) {x y : Int64} {pc' : Nat} (hd : decode bytes pc = .ok (.land, 1)) (hp : pc + 1 = pc')
    (k : Go p e below (T.setTop (mkF m pc' Ls (.long (x &&& y) :: st))) G) : Go p e below (T.setTop (mkF m pc Ls (.long y :: .long x :: st))) G := by
  subst hp; exact go (fun _ => XS.land X.here K.1 (g := mkF m pc Ls (.long y :: .long x :: st)) rfl (dc K hd) rfl) k
theorem i_lor (K : Cx p l e R s m meth c Z a0 W own nm bytes ml rt) (X : On p l e R s m args below meth c D Z n0 T A cells slots) {x y : Int64} {pc' : Nat} (hd : decode bytes pc = .ok (.lor, 1)) (hp : pc + 1 = pc')
    (k : Go p e below (T.setTop (mkF m pc' Ls (.long (x ||| y) :: st))) G) : Go p e below (T.setTop (mkF m pc Ls (.long y :: .long x :: st))) G := by
  subst hp; exact go (fun _ => XS.lor X.here K.1 (g := mkF m pc Ls (.long y :: .long x :: st)) rfl (dc K hd) rfl) k
theorem i_lxor (K : Cx p l e R s m meth c Z a0 W own nm bytes ml rt) (X : On p l e R s m args below meth c D Z n0 T A cells slots) {x y : Int64} {pc' : Nat} (hd : decode bytes pc = .ok (.lxor, 1)) (hp : pc + 1 = pc')
    (k : Go p e below (T.setTop (mkF m pc' Ls (.long (x ^^^ y) :: st))) G) : Go p e below (T.setTop (mkF m pc Ls (.long y :: .long x :: st))) G := by
  subst hp; exact go (fun _ => XS.lxor X.here K.1 (g := mkF m pc Ls (.long y :: .long x :: st)) rfl (dc K hd) rfl) k
theorem i_lshl (K : Cx p l e R s m meth c Z a0 W own nm bytes ml rt) (X : On p l e R s m args below meth c D Z n0 T A cells slots) {x : Int64} {y : Int32} {pc' : Nat} (hd : decode bytes pc = .ok (.lshl, 1)) (hp : pc + 1 = pc')
    (k : Go p e below (T.setTop (mkF m pc' Ls (.long (x <<< (y &&& 0x3f).toInt64) :: st))) G) : Go p e below (T.setTop (mkF m pc Ls (.int y :: .long x :: st))) G := by
  subst hp; exact go (fun _ => XS.lshl X.here K.1 (g := mkF m pc Ls (.int y :: .long x :: st)) rfl (dc K hd) rfl) k
theorem i_lshr (K : Cx p l e R s m meth c Z a0 W own nm bytes ml rt) (X : On p l e R s m args below meth c D Z n0 T A cells slots) {x : Int64} {y : Int32} {pc' : Nat} (hd : decode bytes pc = .ok (.lshr, 1)) (hp : pc + 1 = pc')
    (k : Go p e below (T.setTop (mkF m pc' Ls (.long (x >>> (y &&& 0x3f).toInt64) :: st))) G) : Go p e below (T.setTop (mkF m pc Ls (.int y :: .long x :: st))) G := by
  subst hp; exact go (fun _ => XS.lshr X.here K.1 (g := mkF m pc Ls (.int y :: .long x :: st)) rfl (dc K hd) rfl) k
theorem i_lushr (K : Cx p l e R s m meth c Z a0 W own nm bytes ml rt) (X : On p l e R s m args below meth c D Z n0 T A cells slots) {x : Int64} {y : Int32} {pc' : Nat} (hd : decode bytes pc = .ok (.lushr, 1)) (hp : pc + 1 = pc')
    (k : Go p e below (T.setTop (mkF m pc' Ls (.long ((x.toUInt64 >>> (y &&& 0x3f).toInt64.toUInt64).toInt64) :: st))) G) : Go p e below (T.setTop (mkF m pc Ls (.int y :: .long x :: st))) G := by
  subst hp; exact go (fun _ => XS.lushr X.here K.1 (g := mkF m pc Ls (.int y :: .long x :: st)) rfl (dc K hd) rfl) k
theorem i_ldiv (K : Cx p l e R s m meth c Z a0 W own nm bytes ml rt) (X : On p l e R s m args below meth c D Z n0 T A cells slots) {x y : Int64} {pc' : Nat} (hd : decode bytes pc = .ok (.ldiv, 1)) (hp : pc + 1 = pc') (hy : y ≠ 0)
    (k : Go p e below (T.setTop (mkF m pc' Ls (.long (x / y) :: st))) G) : Go p e below (T.setTop (mkF m pc Ls (.long y :: .long x :: st))) G := by
  subst hp; exact go (fun _ => XS.ldiv X.here K.1 (g := mkF m pc Ls (.long y :: .long x :: st)) rfl (dc K hd) rfl hy) k
theorem i_lrem (K : Cx p l e R s m meth c Z a0 W own nm bytes ml rt) (X : On p l e R s m args below meth c D Z n0 T A cells slots) {x y : Int64} {pc' : Nat} (hd : decode bytes pc = .ok (.lrem, 1)) (hp : pc + 1 = pc') (hy : y ≠ 0)
    (k : Go p e below (T.setTop (mkF m pc' Ls (.long (x - (x / y) * y) :: st))) G) : Go p e below (T.setTop (mkF m pc Ls (.long y :: .long x :: st))) G := by
  subst hp; exact go (fun _ => XS.lrem X.here K.1 (g := mkF m pc Ls (.long y :: .long x :: st)) rfl (dc K hd) rfl hy) k
theorem i_ineg (K : Cx p l e R s m meth c Z a0 W own nm bytes ml rt) (X : On p l e R s m args below meth c D Z n0 T A cells slots) {x : Int32} {pc' : Nat} (hd : decode bytes pc = .ok (.ineg, 1)) (hp : pc + 1 = pc')
    (k : Go p e below (T.setTop (mkF m pc' Ls (.int (-x) :: st))) G) : Go p e below (T.setTop (mkF m pc Ls (.int x :: st))) G := by
  subst hp; exact go (fun _ => XS.ineg X.here K.1 (g := mkF m pc Ls (.int x :: st)) rfl (dc K hd) rfl) k
theorem i_lneg (K : Cx p l e R s m meth c Z a0 W own nm bytes ml rt) (X : On p l e R s m args below meth c D Z n0 T A cells slots) {x : Int64} {pc' : Nat} (hd : decode bytes pc = .ok (.lneg, 1)) (hp : pc + 1 = pc')
    (k : Go p e below (T.setTop (mkF m pc' Ls (.long (-x) :: st))) G) : Go p e below (T.setTop (mkF m pc Ls (.long x :: st))) G := by
  subst hp; exact go (fun _ => XS.lneg X.here K.1 (g := mkF m pc Ls (.long x :: st)) rfl (dc K hd) rfl) k
theorem i_i2b (K : Cx p l e R s m meth c Z a0 W own nm bytes ml rt) (X : On p l e R s m args below meth c D Z n0 T A cells slots) {x : Int32} {pc' : Nat} (hd : decode bytes pc = .ok (.i2b, 1)) (hp : pc + 1 = pc')
    (k : Go p e below (T.setTop (mkF m pc' Ls (.int (x.toInt8.toInt32) :: st))) G) : Go p e below (T.setTop (mkF m pc Ls (.int x :: st))) G := by
  subst hp; exact go (fun _ => XS.i2b X.here K.1 (g := mkF m pc Ls (.int x :: st)) rfl (dc K hd) rfl) k
theorem i_i2c (K : Cx p l e R s m meth c Z a0 W own nm bytes ml rt) (X : On p l e R s m args below meth c D Z n0 T A cells slots) {x : Int32} {pc' : Nat} (hd : decode bytes pc = .ok (.i2c, 1)) (hp : pc + 1 = pc')
    (k : Go p e below (T.setTop (mkF m pc' Ls (.int (x.toUInt32.toUInt16.toUInt32.toInt32) :: st))) G) : Go p e below (T.setTop (mkF m pc Ls (.int x :: st))) G := by
  subst hp; exact go (fun _ => XS.i2c X.here K.1 (g := mkF m pc Ls (.int x :: st)) rfl (dc K hd) rfl) k
theorem i_i2s (K : Cx p l e R s m meth c Z a0 W own nm bytes ml rt) (X : On p l e R s m args below meth c D Z n0 T A cells slots) {x : Int32} {pc' : Nat} (hd : decode bytes pc = .ok (.i2s, 1)) (hp : pc + 1 = pc')
    (k : Go p e below (T.setTop (mkF m pc' Ls (.int (x.toInt16.toInt32) :: st))) G) : Go p e below (T.setTop (mkF m pc Ls (.int x :: st))) G := by
  subst hp; exact go (fun _ => XS.i2s X.here K.1 (g := mkF m pc Ls (.int x :: st)) rfl (dc K hd) rfl) k
theorem i_i2l (K : Cx p l e R s m meth c Z a0 W own nm bytes ml rt) (X : On p l e R s m args below meth c D Z n0 T A cells slots) {x : Int32} {pc' : Nat} (hd : decode bytes pc = .ok (.i2l, 1)) (hp : pc + 1 = pc')
    (k : Go p e below (T.setTop (mkF m pc' Ls (.long (x.toInt64) :: st))) G) : Go p e below (T.setTop (mkF m pc Ls (.int x :: st))) G := by
  subst hp; exact go (fun _ => XS.i2l X.here K.1 (g := mkF m pc Ls (.int x :: st)) rfl (dc K hd) rfl) k
theorem i_l2i (K : Cx p l e R s m meth c Z a0 W own nm bytes ml rt) (X : On p l e R s m args below meth c D Z n0 T A cells slots) {x : Int64} {pc' : Nat} (hd : decode bytes pc = .ok (.l2i, 1)) (hp : pc + 1 = pc')
    (k : Go p e below (T.setTop (mkF m pc' Ls (.int (x.toInt32) :: st))) G) : Go p e below (T.setTop (mkF m pc Ls (.long x :: st))) G := by
  subst hp; exact go (fun _ => XS.l2i X.here K.1 (g := mkF m pc Ls (.long x :: st)) rfl (dc K hd) rfl) k
theorem i_lcmp (K : Cx p l e R s m meth c Z a0 W own nm bytes ml rt) (X : On p l e R s m args below meth c D Z n0 T A cells slots) {x y : Int64} {pc' : Nat} (hd : decode bytes pc = .ok (.lcmp, 1)) (hp : pc + 1 = pc')
    (k : Go p e below (T.setTop (mkF m pc' Ls (.int (lcmpW x y) :: st))) G) : Go p e below (T.setTop (mkF m pc Ls (.long y :: .long x :: st))) G := by
  subst hp; exact go (fun _ => XS.lcmp X.here K.1 (g := mkF m pc Ls (.long y :: .long x :: st)) rfl (dc K hd) rfl) k
theorem i_pop (K : Cx p l e R s m meth c Z a0 W own nm bytes ml rt) (X : On p l e R s m args below meth c D Z n0 T A cells slots) {x : Value} {pc' : Nat} (hd : decode bytes pc = .ok (.pop, 1)) (hp : pc + 1 = pc') (h1 : x.category = 1)
    (k : Go p e below (T.setTop (mkF m pc' Ls (st))) G) : Go p e below (T.setTop (mkF m pc Ls (x :: st))) G := by
  subst hp; exact go (fun _ => XS.pop X.here K.1 (g := mkF m pc Ls (x :: st)) rfl (dc K hd) rfl h1) k
theorem i_dup (K : Cx p l e R s m meth c Z a0 W own nm bytes ml rt) (X : On p l e R s m args below meth c D Z n0 T A cells slots) {x : Value} {pc' : Nat} (hd : decode bytes pc = .ok (.dup, 1)) (hp : pc + 1 = pc') (h1 : x.category = 1)
    (k : Go p e below (T.setTop (mkF m pc' Ls (x :: x :: st))) G) : Go p e below (T.setTop (mkF m pc Ls (x :: st))) G := by
  subst hp; exact go (fun _ => XS.dup X.here K.1 (g := mkF m pc Ls (x :: st)) rfl (dc K hd) rfl h1) k
theorem i_dupX1 (K : Cx p l e R s m meth c Z a0 W own nm bytes ml rt) (X : On p l e R s m args below meth c D Z n0 T A cells slots) {x y : Value} {pc' : Nat} (hd : decode bytes pc = .ok (.dup_x1, 1)) (hp : pc + 1 = pc') (h1 : x.category = 1) (h2 : y.category = 1)
    (k : Go p e below (T.setTop (mkF m pc' Ls (x :: y :: x :: st))) G) : Go p e below (T.setTop (mkF m pc Ls (x :: y :: st))) G := by
  subst hp; exact go (fun _ => XS.dupX1 X.here K.1 (g := mkF m pc Ls (x :: y :: st)) rfl (dc K hd) rfl h1 h2) k
theorem i_swap (K : Cx p l e R s m meth c Z a0 W own nm bytes ml rt) (X : On p l e R s m args below meth c D Z n0 T A cells slots) {x y : Value} {pc' : Nat} (hd : decode bytes pc = .ok (.swap, 1)) (hp : pc + 1 = pc') (h1 : x.category = 1) (h2 : y.category = 1)
    (k : Go p e below (T.setTop (mkF m pc' Ls (y :: x :: st))) G) : Go p e below (T.setTop (mkF m pc Ls (x :: y :: st))) G := by
  subst hp; exact go (fun _ => XS.swap X.here K.1 (g := mkF m pc Ls (x :: y :: st)) rfl (dc K hd) rfl h1 h2) k
theorem i_iload (K : Cx p l e R s m meth c Z a0 W own nm bytes ml rt) (X : On p l e R s m args below meth c D Z n0 T A cells slots) {v : Int32} {i : Nat} {pc' : Nat} (hd : decode bytes pc = .ok (.iload i, 2)) (hp : pc + 2 = pc') (hl : Ls[i]? = some (.val (.int v)))
    (k : Go p e below (T.setTop (mkF m pc' Ls (.int v :: st))) G) : Go p e below (T.setTop (mkF m pc Ls (st))) G := by
  subst hp; exact go (fun _ => XS.iload X.here K.1 (g := mkF m pc Ls (st)) rfl (dc K hd) hl) k
theorem i_iloadN (K : Cx p l e R s m meth c Z a0 W own nm bytes ml rt) (X : On p l e R s m args below meth c D Z n0 T A cells slots) {v : Int32} {i : Fin 4} {pc' : Nat} (hd : decode bytes pc = .ok (.iload_n i, 1)) (hp : pc + 1 = pc') (hl : Ls[i.val]? = some (.val (.int v)))
    (k : Go p e below (T.setTop (mkF m pc' Ls (.int v :: st))) G) : Go p e below (T.setTop (mkF m pc Ls (st))) G := by
  subst hp; exact go (fun _ => XS.iloadN X.here K.1 (g := mkF m pc Ls (st)) rfl (dc K hd) hl) k
theorem i_lload (K : Cx p l e R s m meth c Z a0 W own nm bytes ml rt) (X : On p l e R s m args below meth c D Z n0 T A cells slots) {v : Int64} {i : Nat} {pc' : Nat} (hd : decode bytes pc = .ok (.lload i, 2)) (hp : pc + 2 = pc') (hl : Ls[i]? = some (.val (.long v)))
    (k : Go p e below (T.setTop (mkF m pc' Ls (.long v :: st))) G) : Go p e below (T.setTop (mkF m pc Ls (st))) G := by
  subst hp; exact go (fun _ => XS.lload X.here K.1 (g := mkF m pc Ls (st)) rfl (dc K hd) hl) k
theorem i_lloadN (K : Cx p l e R s m meth c Z a0 W own nm bytes ml rt) (X : On p l e R s m args below meth c D Z n0 T A cells slots) {v : Int64} {i : Fin 4} {pc' : Nat} (hd : decode bytes pc = .ok (.lload_n i, 1)) (hp : pc + 1 = pc') (hl : Ls[i.val]? = some (.val (.long v)))
    (k : Go p e below (T.setTop (mkF m pc' Ls (.long v :: st))) G) : Go p e below (T.setTop (mkF m pc Ls (st))) G := by
  subst hp; exact go (fun _ => XS.lloadN X.here K.1 (g := mkF m pc Ls (st)) rfl (dc K hd) hl) k
theorem i_aload (K : Cx p l e R s m meth c Z a0 W own nm bytes ml rt) (X : On p l e R s m args below meth c D Z n0 T A cells slots) {v : Value} {i : Nat} {pc' : Nat} (hd : decode bytes pc = .ok (.aload i, 2)) (hp : pc + 2 = pc') (hl : Ls[i]? = some (.val v)) (hv : v.isRef = true)
    (k : Go p e below (T.setTop (mkF m pc' Ls (v :: st))) G) : Go p e below (T.setTop (mkF m pc Ls (st))) G := by
  subst hp; exact go (fun _ => XS.aload X.here K.1 (g := mkF m pc Ls (st)) rfl (dc K hd) hl hv) k
theorem i_aloadN (K : Cx p l e R s m meth c Z a0 W own nm bytes ml rt) (X : On p l e R s m args below meth c D Z n0 T A cells slots) {v : Value} {i : Fin 4} {pc' : Nat} (hd : decode bytes pc = .ok (.aload_n i, 1)) (hp : pc + 1 = pc') (hl : Ls[i.val]? = some (.val v)) (hv : v.isRef = true)
    (k : Go p e below (T.setTop (mkF m pc' Ls (v :: st))) G) : Go p e below (T.setTop (mkF m pc Ls (st))) G := by
  subst hp; exact go (fun _ => XS.aloadN X.here K.1 (g := mkF m pc Ls (st)) rfl (dc K hd) hl hv) k
theorem i_istore (K : Cx p l e R s m meth c Z a0 W own nm bytes ml rt) (X : On p l e R s m args below meth c D Z n0 T A cells slots) {v : Int32} {i : Nat} {Ls' : Array Slot} {pc' : Nat} (hd : decode bytes pc = .ok (.istore i, 2)) (hp : pc + 2 = pc') (hl : storeLocals Ls i (.int v) = some Ls')
    (k : Go p e below (T.setTop (mkF m pc' Ls' (st))) G) : Go p e below (T.setTop (mkF m pc Ls (.int v :: st))) G := by
  subst hp; exact go (fun _ => XS.istore X.here K.1 (g := mkF m pc Ls (.int v :: st)) rfl (dc K hd) rfl hl) k
theorem i_istoreN (K : Cx p l e R s m meth c Z a0 W own nm bytes ml rt) (X : On p l e R s m args below meth c D Z n0 T A cells slots) {v : Int32} {i : Fin 4} {Ls' : Array Slot} {pc' : Nat} (hd : decode bytes pc = .ok (.istore_n i, 1)) (hp : pc + 1 = pc') (hl : storeLocals Ls i.val (.int v) = some Ls')
    (k : Go p e below (T.setTop (mkF m pc' Ls' (st))) G) : Go p e below (T.setTop (mkF m pc Ls (.int v :: st))) G := by
  subst hp; exact go (fun _ => XS.istoreN X.here K.1 (g := mkF m pc Ls (.int v :: st)) rfl (dc K hd) rfl hl) k
theorem i_lstore (K : Cx p l e R s m meth c Z a0 W own nm bytes ml rt) (X : On p l e R s m args below meth c D Z n0 T A cells slots) {v : Int64} {i : Nat} {Ls' : Array Slot} {pc' : Nat} (hd : decode bytes pc = .ok (.lstore i, 2)) (hp : pc + 2 = pc') (hl : storeLocals Ls i (.long v) = some Ls')
    (k : Go p e below (T.setTop (mkF m pc' Ls' (st))) G) : Go p e below (T.setTop (mkF m pc Ls (.long v :: st))) G := by
  subst hp; exact go (fun _ => XS.lstore X.here K.1 (g := mkF m pc Ls (.long v :: st)) rfl (dc K hd) rfl hl) k
theorem i_lstoreN (K : Cx p l e R s m meth c Z a0 W own nm bytes ml rt) (X : On p l e R s m args below meth c D Z n0 T A cells slots) {v : Int64} {i : Fin 4} {Ls' : Array Slot} {pc' : Nat} (hd : decode bytes pc = .ok (.lstore_n i, 1)) (hp : pc + 1 = pc') (hl : storeLocals Ls i.val (.long v) = some Ls')
    (k : Go p e below (T.setTop (mkF m pc' Ls' (st))) G) : Go p e below (T.setTop (mkF m pc Ls (.long v :: st))) G := by
  subst hp; exact go (fun _ => XS.lstoreN X.here K.1 (g := mkF m pc Ls (.long v :: st)) rfl (dc K hd) rfl hl) k
theorem i_astore (K : Cx p l e R s m meth c Z a0 W own nm bytes ml rt) (X : On p l e R s m args below meth c D Z n0 T A cells slots) {v : Value} {i : Nat} {Ls' : Array Slot} {pc' : Nat} (hd : decode bytes pc = .ok (.astore i, 2)) (hp : pc + 2 = pc') (hl : storeLocals Ls i v = some Ls') (hv : v.isRef = true)
    (k : Go p e below (T.setTop (mkF m pc' Ls' (st))) G) : Go p e below (T.setTop (mkF m pc Ls (v :: st))) G := by
  subst hp; exact go (fun _ => XS.astore X.here K.1 (g := mkF m pc Ls (v :: st)) rfl (dc K hd) rfl hv hl) k
theorem i_astoreN (K : Cx p l e R s m meth c Z a0 W own nm bytes ml rt) (X : On p l e R s m args below meth c D Z n0 T A cells slots) {v : Value} {i : Fin 4} {Ls' : Array Slot} {pc' : Nat} (hd : decode bytes pc = .ok (.astore_n i, 1)) (hp : pc + 1 = pc') (hl : storeLocals Ls i.val v = some Ls') (hv : v.isRef = true)
    (k : Go p e below (T.setTop (mkF m pc' Ls' (st))) G) : Go p e below (T.setTop (mkF m pc Ls (v :: st))) G := by
  subst hp; exact go (fun _ => XS.astoreN X.here K.1 (g := mkF m pc Ls (v :: st)) rfl (dc K hd) rfl hv hl) k
theorem i_iconst (K : Cx p l e R s m meth c Z a0 W own nm bytes ml rt) (X : On p l e R s m args below meth c D Z n0 T A cells slots) {i : Int} {v : Int32} {pc' : Nat} (hd : decode bytes pc = .ok (.iconst i, 1)) (hp : pc + 1 = pc') (hv : Int32.ofInt i = v)
    (k : Go p e below (T.setTop (mkF m pc' Ls (.int v :: st))) G) : Go p e below (T.setTop (mkF m pc Ls st)) G := by
  subst hp hv; exact go (fun _ => XS.iconst X.here K.1 (g := mkF m pc Ls st) rfl (dc K hd)) k
theorem i_bipush (K : Cx p l e R s m meth c Z a0 W own nm bytes ml rt) (X : On p l e R s m args below meth c D Z n0 T A cells slots) {i : Int} {v : Int32} {pc' : Nat} (hd : decode bytes pc = .ok (.bipush i, 2)) (hp : pc + 2 = pc') (hv : (Int8.ofInt i).toInt32 = v)
    (k : Go p e below (T.setTop (mkF m pc' Ls (.int v :: st))) G) : Go p e below (T.setTop (mkF m pc Ls st)) G := by
  subst hp hv; exact go (fun _ => XS.bipush X.here K.1 (g := mkF m pc Ls st) rfl (dc K hd)) k
theorem i_sipush (K : Cx p l e R s m meth c Z a0 W own nm bytes ml rt) (X : On p l e R s m args below meth c D Z n0 T A cells slots) {i : Int} {v : Int32} {pc' : Nat} (hd : decode bytes pc = .ok (.sipush i, 3)) (hp : pc + 3 = pc') (hv : (Int16.ofInt i).toInt32 = v)
    (k : Go p e below (T.setTop (mkF m pc' Ls (.int v :: st))) G) : Go p e below (T.setTop (mkF m pc Ls st)) G := by
  subst hp hv; exact go (fun _ => XS.sipush X.here K.1 (g := mkF m pc Ls st) rfl (dc K hd)) k
theorem i_lconst (K : Cx p l e R s m meth c Z a0 W own nm bytes ml rt) (X : On p l e R s m args below meth c D Z n0 T A cells slots) {i : Fin 2} {v : Int64} {pc' : Nat} (hd : decode bytes pc = .ok (.lconst i, 1)) (hp : pc + 1 = pc') (hv : Int64.ofNat i = v)
    (k : Go p e below (T.setTop (mkF m pc' Ls (.long v :: st))) G) : Go p e below (T.setTop (mkF m pc Ls st)) G := by
  subst hp hv; exact go (fun _ => XS.lconst X.here K.1 (g := mkF m pc Ls st) rfl (dc K hd)) k
theorem i_aconstNull (K : Cx p l e R s m meth c Z a0 W own nm bytes ml rt) (X : On p l e R s m args below meth c D Z n0 T A cells slots)  {pc' : Nat} (hd : decode bytes pc = .ok (.aconst_null, 1)) (hp : pc + 1 = pc')
    (k : Go p e below (T.setTop (mkF m pc' Ls (.null :: st))) G) : Go p e below (T.setTop (mkF m pc Ls (st))) G := by
  subst hp; exact go (fun _ => XS.aconstNull X.here K.1 (g := mkF m pc Ls (st)) rfl (dc K hd)) k
theorem i_iinc (K : Cx p l e R s m meth c Z a0 W own nm bytes ml rt) (X : On p l e R s m args below meth c D Z n0 T A cells slots) {x y : Int32} {i : Nat} {cst : Int} {Ls' : Array Slot} {pc' : Nat} (hd : decode bytes pc = .ok (.iinc i cst, 3)) (hp : pc + 3 = pc') (hl : Ls[i]? = some (.val (.int x))) (hy : Int32.ofInt cst = y) (hl' : storeLocals Ls i (.int (x + y)) = some Ls')
    (k : Go p e below (T.setTop (mkF m pc' Ls' st)) G) : Go p e below (T.setTop (mkF m pc Ls st)) G := by
  subst hp hy; exact go (fun _ => XS.iinc X.here K.1 (g := mkF m pc Ls st) rfl (dc K hd) hl hl') k
theorem i_goto (K : Cx p l e R s m meth c Z a0 W own nm bytes ml rt) (X : On p l e R s m args below meth c D Z n0 T A cells slots)  {o : Int} {pc' : Nat} (hd : decode bytes pc = .ok (.goto o, 3))  (ho : 0 ≤ (pc : Int) + o) (hp : ((pc : Int) + o).toNat = pc')
    (k : Go p e below (T.setTop (mkF m pc' Ls st)) G) : Go p e below (T.setTop (mkF m pc Ls (st))) G := by
  exact go (fun _ => XS.goto X.here K.1 (g := mkF m pc Ls (st)) rfl (pc0 := pc) (pc' := pc') rfl (dc K hd)  ho hp) k
theorem i_ifYes (K : Cx p l e R s m meth c Z a0 W own nm bytes ml rt) (X : On p l e R s m args below meth c D Z n0 T A cells slots) {cd : ClassFile.Cond} {x : Int32} {o : Int} {pc' : Nat} (hd : decode bytes pc = .ok (.ifCond cd o, 3)) (h : if_icmp.holds cd x 0 = true) (ho : 0 ≤ (pc : Int) + o) (hp : ((pc : Int) + o).toNat = pc')
    (k : Go p e below (T.setTop (mkF m pc' Ls st)) G) : Go p e below (T.setTop (mkF m pc Ls (.int x :: st))) G := by
  exact go (fun _ => XS.ifYes X.here K.1 (g := mkF m pc Ls (.int x :: st)) rfl (pc0 := pc) (pc' := pc') rfl (dc K hd) rfl ((if0 _ _).trans h) ho hp) k
theorem i_icmpYes (K : Cx p l e R s m meth c Z a0 W own nm bytes ml rt) (X : On p l e R s m args below meth c D Z n0 T A cells slots) {cd : ClassFile.Cond} {x y : Int32} {o : Int} {pc' : Nat} (hd : decode bytes pc = .ok (.if_icmp cd o, 3)) (h : if_icmp.holds cd x y = true) (ho : 0 ≤ (pc : Int) + o) (hp : ((pc : Int) + o).toNat = pc')
    (k : Go p e below (T.setTop (mkF m pc' Ls st)) G) : Go p e below (T.setTop (mkF m pc Ls (.int y :: .int x :: st))) G := by
  exact go (fun _ => XS.icmpYes X.here K.1 (g := mkF m pc Ls (.int y :: .int x :: st)) rfl (pc0 := pc) (pc' := pc') rfl (dc K hd) rfl h ho hp) k
theorem i_ifNo (K : Cx p l e R s m meth c Z a0 W own nm bytes ml rt) (X : On p l e R s m args below meth c D Z n0 T A cells slots) {cd : ClassFile.Cond} {x : Int32} {o : Int} {pc' : Nat} (hd : decode bytes pc = .ok (.ifCond cd o, 3)) (hp : pc + 3 = pc') (h : if_icmp.holds cd x 0 = false)
    (k : Go p e below (T.setTop (mkF m pc' Ls (st))) G) : Go p e below (T.setTop (mkF m pc Ls (.int x :: st))) G := by
  subst hp; exact go (fun _ => XS.ifNo X.here K.1 (g := mkF m pc Ls (.int x :: st)) rfl (dc K hd) rfl ((if0 _ _).trans h)) k
theorem i_icmpNo (K : Cx p l e R s m meth c Z a0 W own nm bytes ml rt) (X : On p l e R s m args below meth c D Z n0 T A cells slots) {cd : ClassFile.Cond} {x y : Int32} {o : Int} {pc' : Nat} (hd : decode bytes pc = .ok (.if_icmp cd o, 3)) (hp : pc + 3 = pc') (h : if_icmp.holds cd x y = false)
    (k : Go p e below (T.setTop (mkF m pc' Ls (st))) G) : Go p e below (T.setTop (mkF m pc Ls (.int y :: .int x :: st))) G := by
  subst hp; exact go (fun _ => XS.icmpNo X.here K.1 (g := mkF m pc Ls (.int y :: .int x :: st)) rfl (dc K hd) rfl h) k
theorem i_ifnullYes (K : Cx p l e R s m meth c Z a0 W own nm bytes ml rt) (X : On p l e R s m args below meth c D Z n0 T A cells slots)  {o : Int} {pc' : Nat} (hd : decode bytes pc = .ok (.ifnull o, 3))  (ho : 0 ≤ (pc : Int) + o) (hp : ((pc : Int) + o).toNat = pc')
    (k : Go p e below (T.setTop (mkF m pc' Ls st)) G) : Go p e below (T.setTop (mkF m pc Ls (.null :: st))) G := by
  exact go (fun _ => XS.ifnullYes X.here K.1 (g := mkF m pc Ls (.null :: st)) rfl (pc0 := pc) (pc' := pc') rfl (dc K hd) rfl ho hp) k
theorem i_ifnullNo (K : Cx p l e R s m meth c Z a0 W own nm bytes ml rt) (X : On p l e R s m args below meth c D Z n0 T A cells slots) {b : Addr} {o : Int} {pc' : Nat} (hd : decode bytes pc = .ok (.ifnull o, 3)) (hp : pc + 3 = pc')
    (k : Go p e below (T.setTop (mkF m pc' Ls (st))) G) : Go p e below (T.setTop (mkF m pc Ls (.ref b :: st))) G := by
  subst hp; exact go (fun _ => XS.ifnullNo X.here K.1 (g := mkF m pc Ls (.ref b :: st)) rfl (dc K hd) rfl) k
theorem i_ifnonnullYes (K : Cx p l e R s m meth c Z a0 W own nm bytes ml rt) (X : On p l e R s m args below meth c D Z n0 T A cells slots) {b : Addr} {o : Int} {pc' : Nat} (hd : decode bytes pc = .ok (.ifnonnull o, 3))  (ho : 0 ≤ (pc : Int) + o) (hp : ((pc : Int) + o).toNat = pc')
    (k : Go p e below (T.setTop (mkF m pc' Ls st)) G) : Go p e below (T.setTop (mkF m pc Ls (.ref b :: st))) G := by
  exact go (fun _ => XS.ifnonnullYes X.here K.1 (g := mkF m pc Ls (.ref b :: st)) rfl (pc0 := pc) (pc' := pc') rfl (dc K hd) rfl ho hp) k
theorem i_ifnonnullNo (K : Cx p l e R s m meth c Z a0 W own nm bytes ml rt) (X : On p l e R s m args below meth c D Z n0 T A cells slots) {o : Int} {pc' : Nat} (hd : decode bytes pc = .ok (.ifnonnull o, 3)) (hp : pc + 3 = pc')
    (k : Go p e below (T.setTop (mkF m pc' Ls (st))) G) : Go p e below (T.setTop (mkF m pc Ls (.null :: st))) G := by
  subst hp; exact go (fun _ => XS.ifnonnullNo X.here K.1 (g := mkF m pc Ls (.null :: st)) rfl (dc K hd) rfl) k
theorem i_dup2 (K : Cx p l e R s m meth c Z a0 W own nm bytes ml rt) (X : On p l e R s m args below meth c D Z n0 T A cells slots) {x y : Value} {pc' : Nat} (hd : decode bytes pc = .ok (.dup2, 1)) (hp : pc + 1 = pc') (h1 : x.category = 1) (h2 : y.category = 1)
    (k : Go p e below (T.setTop (mkF m pc' Ls (x :: y :: x :: y :: st))) G) : Go p e below (T.setTop (mkF m pc Ls (x :: y :: st))) G := by
  subst hp; exact go (fun _ => Jvm.Free.XT.dup2 X.here K.1 (g := mkF m pc Ls (x :: y :: st)) rfl (dc K hd) rfl h1 h2) k
theorem i_dup2L (K : Cx p l e R s m meth c Z a0 W own nm bytes ml rt) (X : On p l e R s m args below meth c D Z n0 T A cells slots) {x : Int64} {pc' : Nat} (hd : decode bytes pc = .ok (.dup2, 1)) (hp : pc + 1 = pc') 
    (k : Go p e below (T.setTop (mkF m pc' Ls (.long x :: .long x :: st))) G) : Go p e below (T.setTop (mkF m pc Ls (.long x :: st))) G := by
  subst hp; exact go (fun _ => Jvm.Free.XT.dup2L X.here K.1 (g := mkF m pc Ls (.long x :: st)) rfl (dc K hd) rfl) k
theorem i_dupX2 (K : Cx p l e R s m meth c Z a0 W own nm bytes ml rt) (X : On p l e R s m args below meth c D Z n0 T A cells slots) {x : Int32} {y : Int32} {z : Addr} {pc' : Nat} (hd : decode bytes pc = .ok (.dup_x2, 1)) (hp : pc + 1 = pc')
    (k : Go p e below (T.setTop (mkF m pc' Ls (.int x :: .int y :: .ref z :: .int x :: st))) G) : Go p e below (T.setTop (mkF m pc Ls (.int x :: .int y :: .ref z :: st))) G := by
  subst hp
  refine go (fun t hk => ?_) k
  have hdc := dc K hd
  jvm_step X.here [X.here.top, K.1, hdc, Value.category]
  exact hk
theorem i_dup2X1 (K : Cx p l e R s m meth c Z a0 W own nm bytes ml rt) (X : On p l e R s m args below meth c D Z n0 T A cells slots) {x : Int64} {z : Addr} {pc' : Nat} (hd : decode bytes pc = .ok (.dup2_x1, 1)) (hp : pc + 1 = pc')
    (k : Go p e below (T.setTop (mkF m pc' Ls (.long x :: .ref z :: .long x :: st))) G) : Go p e below (T.setTop (mkF m pc Ls (.long x :: .ref z :: st))) G := by
  subst hp
  refine go (fun t hk => ?_) k
  have hdc := dc K hd
  jvm_step X.here [X.here.top, K.1, hdc, Value.category]
  exact hk
theorem i_dup2X2 (K : Cx p l e R s m meth c Z a0 W own nm bytes ml rt) (X : On p l e R s m args below meth c D Z n0 T A cells slots) {x : Int64} {y : Int32} {z : Addr} {pc' : Nat} (hd : decode bytes pc = .ok (.dup2_x2, 1)) (hp : pc + 1 = pc')
    (k : Go p e below (T.setTop (mkF m pc' Ls (.long x :: .int y :: .ref z :: .long x :: st))) G) : Go p e below (T.setTop (mkF m pc Ls (.long x :: .int y :: .ref z :: st))) G := by
  subst hp
  refine go (fun t hk => ?_) k
  have hdc := dc K hd
  jvm_step X.here [X.here.top, K.1, hdc, Value.category]
  exact hk
theorem stOne {Ls Ls' : Array Slot} {i : Nat} {v : Value} {o : Slot} (h : One o) (hold : Ls[i]? = some o) (hv : v.category = 1) (e : Ls.setIfInBounds i (.val v) = Ls') : storeLocals Ls i v = some Ls' := by
  rw [← e]; exact XS.store1 hold h hv
theorem bs {α β : Type} {o : Option α} {f : α → Option β} {b : β} (h : o.bind f = some b) : ∃ a, o = some a ∧ f a = some b := Option.bind_eq_some_iff.mp h
end Instr
end Jvm.OwnKit
namespace Jvm.Pilot.@@N@@
open Jvm Jvm.ClassFile Sem Op Lib Jvm.Free Jvm.Stand Jvm.LawKit Jvm.RoadKit Jvm.OwnKit Bundle Jvm.Pilot.@@N@@.Jvm.D
def own_D : Dic
  | 10 => ("com/example/sealwire/sealwire/dtls/DatagramRecords", [("com/example/sealwire/sealwire/dtls/DatagramRecords", "next", "I"), ("com/example/sealwire/sealwire/dtls/DatagramRecords", "end", "I"), ("com/example/sealwire/sealwire/dtls/DatagramRecords", "datagram", "[B")])
  | _ => ("", [])
theorem own_sep {Z : State} {a0 : Array Value} (hw : ∀ d ∈ tables_1, d.before a0 Z = true) : ∀ t, Sep Z (own_D t).2 := by
  intro t
  unfold own_D
  split
  · refine sep_of (a0 := a0) (C := "com/example/sealwire/sealwire/dtls/DatagramRecords") (fun x hx => ?_) (by decide)
    simp only [List.mem_cons, List.not_mem_nil, or_false] at hx
    rcases hx with rfl | rfl | rfl
    · exact ⟨Or.inl (hw _ (List.mem_of_getElem? (i := 17) rfl)), by decide⟩
    · exact ⟨Or.inl (hw _ (List.mem_of_getElem? (i := 19) rfl)), by decide⟩
    · exact ⟨Or.inl (hw _ (List.mem_of_getElem? (i := 26) rfl)), by decide⟩
  · exact Sep.nil
def own_ds10 : List Value := [(.int 0), (.int 0), .null]
theorem own_dsL10 {p : Program} {l : Launch} {e : Env} {R : Room} {s : State} {m : MethodId} {meth : Method} {c : Code} {Z : State} {a0 : Array Value} {own nm : String} {bytes : ByteArray} {ml n0 : Nat} {rt : Option FieldType} (K : Cx p l e R s m meth c Z a0 tables_1 own nm bytes ml rt) : ∀ (k : Nat) (O f d : String) (v : Value), (own_D 10).2[k]? = some (O, f, d) → own_ds10[k]? = some v → ∃ ty, parseFieldDescriptor d = some ty ∧ Laid Z a0 (own_D 10).1 O f d ∧ lf n0 v = defaultValue ty := by
  intro k O f d v h1 h2
  rcases k with _ | _ | _ |  k
  · simp only [own_D, own_ds10, List.getElem?_cons_zero, List.getElem?_cons_succ, Option.some.injEq, Prod.mk.injEq] at h1 h2
    obtain ⟨rfl, rfl, rfl⟩ := h1; subst h2
    exact ⟨.int, by decide, Or.inl (wd K (i := 17) rfl), rfl⟩
  · simp only [own_D, own_ds10, List.getElem?_cons_zero, List.getElem?_cons_succ, Option.some.injEq, Prod.mk.injEq] at h1 h2
    obtain ⟨rfl, rfl, rfl⟩ := h1; subst h2
    exact ⟨.int, by decide, Or.inl (wd K (i := 19) rfl), rfl⟩
  · simp only [own_D, own_ds10, List.getElem?_cons_zero, List.getElem?_cons_succ, Option.some.injEq, Prod.mk.injEq] at h1 h2
    obtain ⟨rfl, rfl, rfl⟩ := h1; subst h2
    exact ⟨(.array .byte), by decide, Or.inl (wd K (i := 26) rfl), rfl⟩
  · simp [own_D] at h1
section OwnWalk
variable {p : Program} {l : Launch} {e : Env} {s : State} {m : MethodId} {args : Array Value} {below : List Frame} {meth : Method} {c : Code} {Z : State} {a0 : Array Value} {n0 : Nat} {T : State} {A : AH} {cells slots : Nat}
/-! body 5: Math.min(II)I -/
theorem d5_0 : decode jdk_29_method_69_code 0 = .ok (.iload_n 0, 1) := by decide +kernel
theorem d5_1 : decode jdk_29_method_69_code 1 = .ok (.iload_n 1, 1) := by decide +kernel
theorem d5_2 : decode jdk_29_method_69_code 2 = .ok (.if_icmp .gt 7, 3) := by decide +kernel
theorem d5_5 : decode jdk_29_method_69_code 5 = .ok (.iload_n 0, 1) := by decide +kernel
theorem d5_6 : decode jdk_29_method_69_code 6 = .ok (.goto 4, 3) := by decide +kernel
theorem d5_9 : decode jdk_29_method_69_code 9 = .ok (.iload_n 1, 1) := by decide +kernel
theorem d5_10 : decode jdk_29_method_69_code 10 = .ok (.ireturn, 1) := by decide +kernel
theorem pd_5 : parseMethodDescriptor "(II)I" = some ⟨[.int, .int], some .int⟩ := by decide +kernel
abbrev own_R5 : Room := { frames := 0, cells := 0, slots := 0, locals := 0 }
def f5_10 (s0 : Int32) : Int32 :=
  s0
set_option maxRecDepth 65536 in
set_option maxHeartbeats 4000000 in
theorem w5_10 (K : Cx p l e own_R5 s m meth c Z a0 tables_1 "java/lang/Math" "min" jdk_29_method_69_code 2 (some .int)) (X : On p l e own_R5 s m args below meth c own_D Z n0 T A cells slots) (i0 : Int32) (i1 : Int32) (s0 : Int32) (hc : cells + 0 ≤ 0) (hs : slots + 0 ≤ 0) :
    Go p e below (T.setTop (mkF m 10 #[.val (.int i0), .val (.int i1)] [(.int s0)])) (Fini own_D Z n0 s own_R5 (some (.int (f5_10 s0))) A) := by
  unfold f5_10
  exact retI K X (show cells ≤ 0 by omega) (show slots ≤ 0 by omega) d5_10
def f5_0 (i0 : Int32) (i1 : Int32) : Int32 :=
  if i1 < i0 then (f5_10 i1)
  else (f5_10 i0)
set_option maxRecDepth 65536 in
set_option maxHeartbeats 4000000 in
theorem w5_0 (K : Cx p l e own_R5 s m meth c Z a0 tables_1 "java/lang/Math" "min" jdk_29_method_69_code 2 (some .int)) (X : On p l e own_R5 s m args below meth c own_D Z n0 T A cells slots) (i0 : Int32) (i1 : Int32) (hc : cells + 0 ≤ 0) (hs : slots + 0 ≤ 0) :
    Go p e below (T.setTop (mkF m 0 #[.val (.int i0), .val (.int i1)] [])) (Fini own_D Z n0 s own_R5 (some (.int (f5_0 i0 i1))) A) := by
  unfold f5_0
  refine i_iloadN (pc' := 1) K X d5_0 rfl rfl ?_
  refine i_iloadN (pc' := 2) K X d5_1 rfl rfl ?_
  by_cases hc2 : i1 < i0
  · rw [if_pos hc2]
    refine i_icmpYes (pc' := 9) K X d5_2 (tlt hc2).2.2.1 (by decide) (by decide) ?_
    refine i_iloadN (pc' := 10) K X d5_9 rfl rfl ?_
    exact w5_10 K X i0 i1 i1 (show cells + 0 ≤ 0 by omega) (show slots + 0 ≤ 0 by omega)
  · rw [if_neg hc2]
    refine i_icmpNo (pc' := 5) K X d5_2 rfl (flt hc2).2.2.1 ?_
    refine i_iloadN (pc' := 6) K X d5_5 rfl rfl ?_
    refine i_goto (pc' := 10) K X d5_6 (by decide) (by decide) ?_
    exact w5_10 K X i0 i1 i0 (show cells + 0 ≤ 0 by omega) (show slots + 0 ≤ 0 by omega)
theorem rm5 {l : Launch} {Z : State} {a0 : Array Value} {n0 : Nat} (hw : ∀ d ∈ tables_1, d.before a0 Z = true) (A : AH) (i0 : Int32) (i1 : Int32) :
    Met l own_D Z n0 (⟨"java/lang/Math", "min", "(II)I"⟩ : MethodName) jdk_29_method_69_code 2 (some .int) own_R5 [(.int i0), (.int i1)] A (some (.int (f5_0 i0 i1))) A :=
  met (W := tables_1) (a0 := a0) (own := "java/lang/Math") (nm := "min") (L0 := #[.val (.int i0), .val (.int i1)]) (Jvm.Free.JP.mathPlain rfl (by decide +kernel)) hw rfl rfl (fun m => by first | (simp [entryFrame, mkF, argsToLocals, Value.category]; done) | rfl) (fun p e s m below meth c T K X => w5_0 K X i0 i1 (show 0 + 0 ≤ 0 by decide) (show 0 + 0 ≤ 0 by decide))
/-! body 6: DatagramRecordsHasNextPinLaw.octet(III)I -/
theorem d6_0 : decode method_2_code 0 = .ok (.iload_n 0, 1) := by decide +kernel
theorem d6_1 : decode method_2_code 1 = .ok (.iconst 1, 1) := by decide +kernel
theorem d6_2 : decode method_2_code 2 = .ok (.iand, 1) := by decide +kernel
theorem d6_3 : decode method_2_code 3 = .ok (.ifCond .ne 7, 3) := by decide +kernel
theorem d6_6 : decode method_2_code 6 = .ok (.iload_n 1, 1) := by decide +kernel
theorem d6_7 : decode method_2_code 7 = .ok (.goto 4, 3) := by decide +kernel
theorem d6_10 : decode method_2_code 10 = .ok (.iload_n 2, 1) := by decide +kernel
theorem d6_11 : decode method_2_code 11 = .ok (.ireturn, 1) := by decide +kernel
theorem pd_6 : parseMethodDescriptor "(III)I" = some ⟨[.int, .int, .int], some .int⟩ := by decide +kernel
abbrev own_R6 : Room := { frames := 0, cells := 0, slots := 0, locals := 0 }
def f6_11 (s0 : Int32) : Int32 :=
  s0
set_option maxRecDepth 65536 in
set_option maxHeartbeats 4000000 in
theorem w6_11 (K : Cx p l e own_R6 s m meth c Z a0 tables_1 "com/example/sealwire/sealwire/dtls/DatagramRecordsHasNextPinLaw" "octet" method_2_code 3 (some .int)) (X : On p l e own_R6 s m args below meth c own_D Z n0 T A cells slots) (i0 : Int32) (i1 : Int32) (i2 : Int32) (s0 : Int32) (hc : cells + 0 ≤ 0) (hs : slots + 0 ≤ 0) :
    Go p e below (T.setTop (mkF m 11 #[.val (.int i0), .val (.int i1), .val (.int i2)] [(.int s0)])) (Fini own_D Z n0 s own_R6 (some (.int (f6_11 s0))) A) := by
  unfold f6_11
  exact retI K X (show cells ≤ 0 by omega) (show slots ≤ 0 by omega) d6_11
def f6_0 (i0 : Int32) (i1 : Int32) (i2 : Int32) : Int32 :=
  if (i0 &&& (1 : Int32)) = (0 : Int32) then (f6_11 i1)
  else (f6_11 i2)
set_option maxRecDepth 65536 in
set_option maxHeartbeats 4000000 in
theorem w6_0 (K : Cx p l e own_R6 s m meth c Z a0 tables_1 "com/example/sealwire/sealwire/dtls/DatagramRecordsHasNextPinLaw" "octet" method_2_code 3 (some .int)) (X : On p l e own_R6 s m args below meth c own_D Z n0 T A cells slots) (i0 : Int32) (i1 : Int32) (i2 : Int32) (hc : cells + 0 ≤ 0) (hs : slots + 0 ≤ 0) :
    Go p e below (T.setTop (mkF m 0 #[.val (.int i0), .val (.int i1), .val (.int i2)] [])) (Fini own_D Z n0 s own_R6 (some (.int (f6_0 i0 i1 i2))) A) := by
  unfold f6_0
  refine i_iloadN (pc' := 1) K X d6_0 rfl rfl ?_
  refine i_iconst (pc' := 2) (v := (1 : Int32)) K X d6_1 rfl rfl ?_
  refine i_iand (pc' := 3) K X d6_2 rfl ?_
  by_cases hc3 : (i0 &&& (1 : Int32)) = (0 : Int32)
  · rw [if_pos hc3]
    refine i_ifNo (pc' := 6) K X d6_3 rfl (teq hc3).2 ?_
    refine i_iloadN (pc' := 7) K X d6_6 rfl rfl ?_
    refine i_goto (pc' := 11) K X d6_7 (by decide) (by decide) ?_
    exact w6_11 K X i0 i1 i2 i1 (show cells + 0 ≤ 0 by omega) (show slots + 0 ≤ 0 by omega)
  · rw [if_neg hc3]
    refine i_ifYes (pc' := 10) K X d6_3 (feq hc3).2 (by decide) (by decide) ?_
    refine i_iloadN (pc' := 11) K X d6_10 rfl rfl ?_
    exact w6_11 K X i0 i1 i2 i2 (show cells + 0 ≤ 0 by omega) (show slots + 0 ≤ 0 by omega)
theorem pn_6 : plainName "com/example/sealwire/sealwire/dtls/DatagramRecordsHasNextPinLaw" = true := by first | (simp [plainName, overriddenIn]; done) | decide +kernel
theorem rm6 {l : Launch} {Z : State} {a0 : Array Value} {n0 : Nat} (hw : ∀ d ∈ tables_1, d.before a0 Z = true) (A : AH) (i0 : Int32) (i1 : Int32) (i2 : Int32) :
    Met l own_D Z n0 (⟨"com/example/sealwire/sealwire/dtls/DatagramRecordsHasNextPinLaw", "octet", "(III)I"⟩ : MethodName) method_2_code 3 (some .int) own_R6 [(.int i0), (.int i1), (.int i2)] A (some (.int (f6_0 i0 i1 i2))) A :=
  met (W := tables_1) (a0 := a0) (own := "com/example/sealwire/sealwire/dtls/DatagramRecordsHasNextPinLaw") (nm := "octet") (L0 := #[.val (.int i0), .val (.int i1), .val (.int i2)]) (plainFor_of_name pn_6) hw rfl rfl (fun m => by first | (simp [entryFrame, mkF, argsToLocals, Value.category]; done) | rfl) (fun p e s m below meth c T K X => w6_0 K X i0 i1 i2 (show 0 + 0 ≤ 0 by decide) (show 0 + 0 ≤ 0 by decide))
/-! body 1: DatagramRecords.<init>()V -/
theorem d1_0 : decode prog_10_method_1_code 0 = .ok (.aload_n 0, 1) := by decide +kernel
theorem d1_1 : decode prog_10_method_1_code 1 = .ok (.invokespecial 3, 3) := by decide +kernel
theorem d1_4 : decode prog_10_method_1_code 4 = .ok (.return_, 1) := by decide +kernel
theorem pd_1 : parseMethodDescriptor "()V" = some ⟨[], none⟩ := by decide +kernel
abbrev own_R1 : Room := { frames := 1, cells := 0, slots := 0, locals := 12 }
def f1_0 (A : AH) (o0 : Nat) : Option (AH) :=
  some A
set_option maxRecDepth 65536 in
set_option maxHeartbeats 4000000 in
theorem w1_0 (K : Cx p l e own_R1 s m meth c Z a0 tables_1 "com/example/sealwire/sealwire/dtls/DatagramRecords" "<init>" prog_10_method_1_code 1 none) (sep : ∀ t, Sep Z (own_D t).2) (X : On p l e own_R1 s m args below meth c own_D Z n0 T A cells slots) (o0 : Nat) (hc : cells + 0 ≤ 0) (hs : slots + 0 ≤ 0) {q : AH} (hf : f1_0 A o0 = some q) :
    Go p e below (T.setTop (mkF m 0 #[.val (.ref (n0 + o0))] [])) (Fini own_D Z n0 s own_R1 none q) := by
  unfold f1_0 at hf
  refine i_aloadN (pc' := 1) K X d1_0 rfl rfl rfl ?_
  refine obj (pc' := 4) K X (i1 := 8) rfl (i2 := 9) rfl (i3 := 10) rfl d1_1 rfl (by decide) (w := 0) (Nat.le_of_eq rfl) (by decide) rfl (fun T1 X1 => ?_)
  cases hf
  exact retV K X1 (show cells ≤ 0 by omega) (show slots ≤ 0 by omega) d1_4
theorem pn_1 : plainName "com/example/sealwire/sealwire/dtls/DatagramRecords" = true := by first | (simp [plainName, overriddenIn]; done) | decide +kernel
theorem rm1 {l : Launch} {Z : State} {a0 : Array Value} {n0 : Nat} (hw : ∀ d ∈ tables_1, d.before a0 Z = true) (A : AH) (o0 : Nat) {q : AH} (hf : f1_0 A o0 = some q) :
    Met l own_D Z n0 (⟨"com/example/sealwire/sealwire/dtls/DatagramRecords", "<init>", "()V"⟩ : MethodName) prog_10_method_1_code 1 none own_R1 [(.ref (n0 + o0))] A none q :=
  met (W := tables_1) (a0 := a0) (own := "com/example/sealwire/sealwire/dtls/DatagramRecords") (nm := "<init>") (L0 := #[.val (.ref (n0 + o0))]) (plainFor_of_name pn_1) hw rfl rfl (fun m => by first | (simp [entryFrame, mkF, argsToLocals, Value.category]; done) | rfl) (fun p e s m below meth c T K X => w1_0 K (own_sep hw) X o0 (show 0 + 0 ≤ 0 by decide) (show 0 + 0 ≤ 0 by decide) hf)
/-! body 2: DatagramRecords.hasNext()Z -/
theorem d2_0 : decode prog_10_method_2_code 0 = .ok (.aload_n 0, 1) := by decide +kernel
theorem d2_1 : decode prog_10_method_2_code 1 = .ok (.getfield 9, 3) := by decide +kernel
theorem d2_4 : decode prog_10_method_2_code 4 = .ok (.aload_n 0, 1) := by decide +kernel
theorem d2_5 : decode prog_10_method_2_code 5 = .ok (.getfield 13, 3) := by decide +kernel
theorem d2_8 : decode prog_10_method_2_code 8 = .ok (.if_icmp .ge 7, 3) := by decide +kernel
theorem d2_11 : decode prog_10_method_2_code 11 = .ok (.iconst 1, 1) := by decide +kernel
theorem d2_12 : decode prog_10_method_2_code 12 = .ok (.goto 4, 3) := by decide +kernel
theorem d2_15 : decode prog_10_method_2_code 15 = .ok (.iconst 0, 1) := by decide +kernel
theorem d2_16 : decode prog_10_method_2_code 16 = .ok (.ireturn, 1) := by decide +kernel
theorem pd_2 : parseMethodDescriptor "()Z" = some ⟨[], some .boolean⟩ := by decide +kernel
abbrev own_R2 : Room := { frames := 0, cells := 0, slots := 0, locals := 0 }
def f2_16 (A : AH) (s0 : Int32) : Option (Int32 × AH) :=
  some ((nar .boolean s0), A)
set_option maxRecDepth 65536 in
set_option maxHeartbeats 4000000 in
theorem w2_16 (K : Cx p l e own_R2 s m meth c Z a0 tables_1 "com/example/sealwire/sealwire/dtls/DatagramRecords" "hasNext" prog_10_method_2_code 1 (some .boolean)) (sep : ∀ t, Sep Z (own_D t).2) (X : On p l e own_R2 s m args below meth c own_D Z n0 T A cells slots) (o0 : Nat) (s0 : Int32) (hc : cells + 0 ≤ 0) (hs : slots + 0 ≤ 0) {q : Int32 × AH} (hf : f2_16 A s0 = some q) :
    Go p e below (T.setTop (mkF m 16 #[.val (.ref (n0 + o0))] [(.int s0)])) (Fini own_D Z n0 s own_R2 (some (.int q.1)) q.2) := by
  unfold f2_16 at hf
  cases hf
  exact retB K (by simp) X (show cells ≤ 0 by omega) (show slots ≤ 0 by omega) d2_16
def f2_0 (A : AH) (o0 : Nat) : Option (Int32 × AH) :=
  (asI (h_fget A 10 o0 0)).bind fun v1 =>
  (asI (h_fget A 10 o0 1)).bind fun v2 =>
  if v1 < v2 then (f2_16 A (1 : Int32))
  else (f2_16 A (0 : Int32))
set_option maxRecDepth 65536 in
set_option maxHeartbeats 4000000 in
theorem w2_0 (K : Cx p l e own_R2 s m meth c Z a0 tables_1 "com/example/sealwire/sealwire/dtls/DatagramRecords" "hasNext" prog_10_method_2_code 1 (some .boolean)) (sep : ∀ t, Sep Z (own_D t).2) (X : On p l e own_R2 s m args below meth c own_D Z n0 T A cells slots) (o0 : Nat) (hc : cells + 0 ≤ 0) (hs : slots + 0 ≤ 0) {q : Int32 × AH} (hf : f2_0 A o0 = some q) :
    Go p e below (T.setTop (mkF m 0 #[.val (.ref (n0 + o0))] [])) (Fini own_D Z n0 s own_R2 (some (.int q.1)) q.2) := by
  unfold f2_0 at hf
  refine i_aloadN (pc' := 1) K X d2_0 rfl rfl rfl ?_
  obtain ⟨v1, g1, hf⟩ := bs hf
  refine getfI (pc' := 4) K X (i := 16) rfl d2_1 (t := 10) (f := 0) (by decide) rfl g1 rfl (fun T1 X1 => ?_)
  refine i_aloadN (pc' := 5) K X1 d2_4 rfl rfl rfl ?_
  obtain ⟨v2, g2, hf⟩ := bs hf
  refine getfI (pc' := 8) K X1 (i := 18) rfl d2_5 (t := 10) (f := 1) (by decide) rfl g2 rfl (fun T2 X2 => ?_)
  by_cases hc8 : v1 < v2
  · rw [if_pos hc8] at hf
    refine i_icmpNo (pc' := 11) K X2 d2_8 rfl (tlt hc8).2.1 ?_
    refine i_iconst (pc' := 12) (v := (1 : Int32)) K X2 d2_11 rfl rfl ?_
    refine i_goto (pc' := 16) K X2 d2_12 (by decide) (by decide) ?_
    exact w2_16 K sep X2 o0 (1 : Int32) (show cells + 0 ≤ 0 by omega) (show slots + 0 ≤ 0 by omega) hf
  · rw [if_neg hc8] at hf
    refine i_icmpYes (pc' := 15) K X2 d2_8 (flt hc8).2.1 (by decide) (by decide) ?_
    refine i_iconst (pc' := 16) (v := (0 : Int32)) K X2 d2_15 rfl rfl ?_
    exact w2_16 K sep X2 o0 (0 : Int32) (show cells + 0 ≤ 0 by omega) (show slots + 0 ≤ 0 by omega) hf
theorem pn_2 : plainName "com/example/sealwire/sealwire/dtls/DatagramRecords" = true := by first | (simp [plainName, overriddenIn]; done) | decide +kernel
theorem rm2 {l : Launch} {Z : State} {a0 : Array Value} {n0 : Nat} (hw : ∀ d ∈ tables_1, d.before a0 Z = true) (A : AH) (o0 : Nat) {q : Int32 × AH} (hf : f2_0 A o0 = some q) :
    Met l own_D Z n0 (⟨"com/example/sealwire/sealwire/dtls/DatagramRecords", "hasNext", "()Z"⟩ : MethodName) prog_10_method_2_code 1 (some .boolean) own_R2 [(.ref (n0 + o0))] A (some (.int q.1)) q.2 :=
  met (W := tables_1) (a0 := a0) (own := "com/example/sealwire/sealwire/dtls/DatagramRecords") (nm := "hasNext") (L0 := #[.val (.ref (n0 + o0))]) (plainFor_of_name pn_2) hw rfl rfl (fun m => by first | (simp [entryFrame, mkF, argsToLocals, Value.category]; done) | rfl) (fun p e s m below meth c T K X => w2_0 K (own_sep hw) X o0 (show 0 + 0 ≤ 0 by decide) (show 0 + 0 ≤ 0 by decide) hf)
/-! body 3: DatagramRecords.take([BI)V -/
theorem d3_0 : decode prog_10_method_3_code 0 = .ok (.aload_n 0, 1) := by decide +kernel
theorem d3_1 : decode prog_10_method_3_code 1 = .ok (.aload_n 1, 1) := by decide +kernel
theorem d3_2 : decode prog_10_method_3_code 2 = .ok (.putfield 16, 3) := by decide +kernel
theorem d3_5 : decode prog_10_method_3_code 5 = .ok (.aload_n 0, 1) := by decide +kernel
theorem d3_6 : decode prog_10_method_3_code 6 = .ok (.iconst 0, 1) := by decide +kernel
theorem d3_7 : decode prog_10_method_3_code 7 = .ok (.putfield 9, 3) := by decide +kernel
theorem d3_10 : decode prog_10_method_3_code 10 = .ok (.aload_n 0, 1) := by decide +kernel
theorem d3_11 : decode prog_10_method_3_code 11 = .ok (.iload_n 2, 1) := by decide +kernel
theorem d3_12 : decode prog_10_method_3_code 12 = .ok (.putfield 13, 3) := by decide +kernel
theorem d3_15 : decode prog_10_method_3_code 15 = .ok (.return_, 1) := by decide +kernel
theorem pd_3 : parseMethodDescriptor "([BI)V" = some ⟨[(.array .byte), .int], none⟩ := by decide +kernel
abbrev own_R3 : Room := { frames := 0, cells := 0, slots := 0, locals := 0 }
def f3_0 (A : AH) (o0 : Nat) (o1 : Nat) (i2 : Int32) : Option (AH) :=
  (h_fset A 10 o0 2 (.ref o1)).bind fun A1 =>
  (h_fset A1 10 o0 0 (.int (0 : Int32))).bind fun A2 =>
  (h_fset A2 10 o0 1 (.int i2)).bind fun A3 =>
  some A3
set_option maxRecDepth 65536 in
set_option maxHeartbeats 4000000 in
theorem w3_0 (K : Cx p l e own_R3 s m meth c Z a0 tables_1 "com/example/sealwire/sealwire/dtls/DatagramRecords" "take" prog_10_method_3_code 3 none) (sep : ∀ t, Sep Z (own_D t).2) (X : On p l e own_R3 s m args below meth c own_D Z n0 T A cells slots) (o0 : Nat) (o1 : Nat) (i2 : Int32) (hc : cells + 0 ≤ 0) (hs : slots + 0 ≤ 0) {q : AH} (hf : f3_0 A o0 o1 i2 = some q) :
    Go p e below (T.setTop (mkF m 0 #[.val (.ref (n0 + o0)), .val (.ref (n0 + o1)), .val (.int i2)] [])) (Fini own_D Z n0 s own_R3 none q) := by
  unfold f3_0 at hf
  refine i_aloadN (pc' := 1) K X d3_0 rfl rfl rfl ?_
  refine i_aloadN (pc' := 2) K X d3_1 rfl rfl rfl ?_
  obtain ⟨A1, g1, hf⟩ := bs hf
  refine putf (pc' := 5) (va := (.ref o1)) K sep X (i := 25) rfl d3_2 (t := 10) (f := 2) (by decide) rfl (Or.inl (wd K (i := 26) rfl)) (i2 := 3) rfl (ty := (.array .byte)) (by decide) rfl rfl g1 rfl (fun T1 X1 => ?_)
  refine i_aloadN (pc' := 6) K X1 d3_5 rfl rfl rfl ?_
  refine i_iconst (pc' := 7) (v := (0 : Int32)) K X1 d3_6 rfl rfl ?_
  obtain ⟨A2, g2, hf⟩ := bs hf
  refine putf (pc' := 10) (va := (.int (0 : Int32))) K sep X1 (i := 16) rfl d3_7 (t := 10) (f := 0) (by decide) rfl (Or.inl (wd K (i := 17) rfl)) (i2 := 3) rfl (ty := .int) (by decide) rfl rfl g2 rfl (fun T2 X2 => ?_)
  refine i_aloadN (pc' := 11) K X2 d3_10 rfl rfl rfl ?_
  refine i_iloadN (pc' := 12) K X2 d3_11 rfl rfl ?_
  obtain ⟨A3, g3, hf⟩ := bs hf
  refine putf (pc' := 15) (va := (.int i2)) K sep X2 (i := 18) rfl d3_12 (t := 10) (f := 1) (by decide) rfl (Or.inl (wd K (i := 19) rfl)) (i2 := 3) rfl (ty := .int) (by decide) rfl rfl g3 rfl (fun T3 X3 => ?_)
  cases hf
  exact retV K X3 (show cells ≤ 0 by omega) (show slots ≤ 0 by omega) d3_15
theorem pn_3 : plainName "com/example/sealwire/sealwire/dtls/DatagramRecords" = true := by first | (simp [plainName, overriddenIn]; done) | decide +kernel
theorem rm3 {l : Launch} {Z : State} {a0 : Array Value} {n0 : Nat} (hw : ∀ d ∈ tables_1, d.before a0 Z = true) (A : AH) (o0 : Nat) (o1 : Nat) (i2 : Int32) {q : AH} (hf : f3_0 A o0 o1 i2 = some q) :
    Met l own_D Z n0 (⟨"com/example/sealwire/sealwire/dtls/DatagramRecords", "take", "([BI)V"⟩ : MethodName) prog_10_method_3_code 3 none own_R3 [(.ref (n0 + o0)), (.ref (n0 + o1)), (.int i2)] A none q :=
  met (W := tables_1) (a0 := a0) (own := "com/example/sealwire/sealwire/dtls/DatagramRecords") (nm := "take") (L0 := #[.val (.ref (n0 + o0)), .val (.ref (n0 + o1)), .val (.int i2)]) (plainFor_of_name pn_3) hw rfl rfl (fun m => by first | (simp [entryFrame, mkF, argsToLocals, Value.category]; done) | rfl) (fun p e s m below meth c T K X => w3_0 K (own_sep hw) X o0 o1 i2 (show 0 + 0 ≤ 0 by decide) (show 0 + 0 ≤ 0 by decide) hf)
/-! body 4: DatagramRecords.next([BII)I -/
theorem d4_0 : decode prog_10_method_4_code 0 = .ok (.aload_n 0, 1) := by decide +kernel
theorem d4_1 : decode prog_10_method_4_code 1 = .ok (.getfield 9, 3) := by decide +kernel
theorem d4_4 : decode prog_10_method_4_code 4 = .ok (.istore 4, 2) := by decide +kernel
theorem d4_6 : decode prog_10_method_4_code 6 = .ok (.aload_n 0, 1) := by decide +kernel
theorem d4_7 : decode prog_10_method_4_code 7 = .ok (.getfield 13, 3) := by decide +kernel
theorem d4_10 : decode prog_10_method_4_code 10 = .ok (.istore 5, 2) := by decide +kernel
theorem d4_12 : decode prog_10_method_4_code 12 = .ok (.aload_n 0, 1) := by decide +kernel
theorem d4_13 : decode prog_10_method_4_code 13 = .ok (.getfield 13, 3) := by decide +kernel
theorem d4_16 : decode prog_10_method_4_code 16 = .ok (.iload 4, 2) := by decide +kernel
theorem d4_18 : decode prog_10_method_4_code 18 = .ok (.isub, 1) := by decide +kernel
theorem d4_19 : decode prog_10_method_4_code 19 = .ok (.bipush 13, 2) := by decide +kernel
theorem d4_21 : decode prog_10_method_4_code 21 = .ok (.if_icmp .lt 56, 3) := by decide +kernel
theorem d4_24 : decode prog_10_method_4_code 24 = .ok (.aload_n 0, 1) := by decide +kernel
theorem d4_25 : decode prog_10_method_4_code 25 = .ok (.getfield 16, 3) := by decide +kernel
theorem d4_28 : decode prog_10_method_4_code 28 = .ok (.iload 4, 2) := by decide +kernel
theorem d4_30 : decode prog_10_method_4_code 30 = .ok (.bipush 11, 2) := by decide +kernel
theorem d4_32 : decode prog_10_method_4_code 32 = .ok (.iadd, 1) := by decide +kernel
theorem d4_33 : decode prog_10_method_4_code 33 = .ok (.baload, 1) := by decide +kernel
theorem d4_34 : decode prog_10_method_4_code 34 = .ok (.sipush 255, 3) := by decide +kernel
theorem d4_37 : decode prog_10_method_4_code 37 = .ok (.iand, 1) := by decide +kernel
theorem d4_38 : decode prog_10_method_4_code 38 = .ok (.bipush 8, 2) := by decide +kernel
theorem d4_40 : decode prog_10_method_4_code 40 = .ok (.ishl, 1) := by decide +kernel
theorem d4_41 : decode prog_10_method_4_code 41 = .ok (.aload_n 0, 1) := by decide +kernel
theorem d4_42 : decode prog_10_method_4_code 42 = .ok (.getfield 16, 3) := by decide +kernel
theorem d4_45 : decode prog_10_method_4_code 45 = .ok (.iload 4, 2) := by decide +kernel
theorem d4_47 : decode prog_10_method_4_code 47 = .ok (.bipush 11, 2) := by decide +kernel
theorem d4_49 : decode prog_10_method_4_code 49 = .ok (.iadd, 1) := by decide +kernel
theorem d4_50 : decode prog_10_method_4_code 50 = .ok (.iconst 1, 1) := by decide +kernel
theorem d4_51 : decode prog_10_method_4_code 51 = .ok (.iadd, 1) := by decide +kernel
theorem d4_52 : decode prog_10_method_4_code 52 = .ok (.baload, 1) := by decide +kernel
theorem d4_53 : decode prog_10_method_4_code 53 = .ok (.sipush 255, 3) := by decide +kernel
theorem d4_56 : decode prog_10_method_4_code 56 = .ok (.iand, 1) := by decide +kernel
theorem d4_57 : decode prog_10_method_4_code 57 = .ok (.ior, 1) := by decide +kernel
theorem d4_58 : decode prog_10_method_4_code 58 = .ok (.istore 6, 2) := by decide +kernel
theorem d4_60 : decode prog_10_method_4_code 60 = .ok (.aload_n 0, 1) := by decide +kernel
theorem d4_61 : decode prog_10_method_4_code 61 = .ok (.getfield 13, 3) := by decide +kernel
theorem d4_64 : decode prog_10_method_4_code 64 = .ok (.iload 4, 2) := by decide +kernel
theorem d4_66 : decode prog_10_method_4_code 66 = .ok (.bipush 13, 2) := by decide +kernel
theorem d4_68 : decode prog_10_method_4_code 68 = .ok (.iadd, 1) := by decide +kernel
theorem d4_69 : decode prog_10_method_4_code 69 = .ok (.iload 6, 2) := by decide +kernel
theorem d4_71 : decode prog_10_method_4_code 71 = .ok (.iadd, 1) := by decide +kernel
theorem d4_72 : decode prog_10_method_4_code 72 = .ok (.invokestatic 20, 3) := by decide +kernel
theorem d4_75 : decode prog_10_method_4_code 75 = .ok (.istore 5, 2) := by decide +kernel
theorem d4_77 : decode prog_10_method_4_code 77 = .ok (.aload_n 0, 1) := by decide +kernel
theorem d4_78 : decode prog_10_method_4_code 78 = .ok (.iload 5, 2) := by decide +kernel
theorem d4_80 : decode prog_10_method_4_code 80 = .ok (.putfield 9, 3) := by decide +kernel
theorem d4_83 : decode prog_10_method_4_code 83 = .ok (.iload_n 3, 1) := by decide +kernel
theorem d4_84 : decode prog_10_method_4_code 84 = .ok (.iload 5, 2) := by decide +kernel
theorem d4_86 : decode prog_10_method_4_code 86 = .ok (.iload 4, 2) := by decide +kernel
theorem d4_88 : decode prog_10_method_4_code 88 = .ok (.isub, 1) := by decide +kernel
theorem d4_89 : decode prog_10_method_4_code 89 = .ok (.invokestatic 20, 3) := by decide +kernel
theorem d4_92 : decode prog_10_method_4_code 92 = .ok (.istore 6, 2) := by decide +kernel
theorem d4_94 : decode prog_10_method_4_code 94 = .ok (.aload_n 0, 1) := by decide +kernel
theorem d4_95 : decode prog_10_method_4_code 95 = .ok (.getfield 16, 3) := by decide +kernel
theorem d4_98 : decode prog_10_method_4_code 98 = .ok (.iload 4, 2) := by decide +kernel
theorem d4_100 : decode prog_10_method_4_code 100 = .ok (.aload_n 1, 1) := by decide +kernel
theorem d4_101 : decode prog_10_method_4_code 101 = .ok (.iload_n 2, 1) := by decide +kernel
theorem d4_102 : decode prog_10_method_4_code 102 = .ok (.iload 6, 2) := by decide +kernel
theorem d4_104 : decode prog_10_method_4_code 104 = .ok (.invokestatic 26, 3) := by decide +kernel
theorem d4_107 : decode prog_10_method_4_code 107 = .ok (.iload 6, 2) := by decide +kernel
theorem d4_109 : decode prog_10_method_4_code 109 = .ok (.ireturn, 1) := by decide +kernel
theorem pd_4 : parseMethodDescriptor "([BII)I" = some ⟨[(.array .byte), .int, .int], some .int⟩ := by decide +kernel
abbrev own_R4 : Room := { frames := 1, cells := 0, slots := 0, locals := 18 }
def f4_107 (A : AH) (i6 : Int32) : Option (Int32 × AH) :=
  some (i6, A)
set_option maxRecDepth 65536 in
set_option maxHeartbeats 4000000 in
theorem w4_107 (K : Cx p l e own_R4 s m meth c Z a0 tables_1 "com/example/sealwire/sealwire/dtls/DatagramRecords" "next" prog_10_method_4_code 7 (some .int)) (sep : ∀ t, Sep Z (own_D t).2) (X : On p l e own_R4 s m args below meth c own_D Z n0 T A cells slots) (o0 : Nat) (o1 : Nat) (i2 : Int32) (i3 : Int32) (i4 : Int32) (i5 : Int32) (i6 : Int32) (hc : cells + 0 ≤ 0) (hs : slots + 0 ≤ 0) {q : Int32 × AH} (hf : f4_107 A i6 = some q) :
    Go p e below (T.setTop (mkF m 107 #[.val (.ref (n0 + o0)), .val (.ref (n0 + o1)), .val (.int i2), .val (.int i3), .val (.int i4), .val (.int i5), .val (.int i6)] [])) (Fini own_D Z n0 s own_R4 (some (.int q.1)) q.2) := by
  unfold f4_107 at hf
  refine i_iload (pc' := 109) K X d4_107 rfl rfl ?_
  cases hf
  exact retI K X (show cells ≤ 0 by omega) (show slots ≤ 0 by omega) d4_109
def f4_77 (A : AH) (o0 : Nat) (o1 : Nat) (i2 : Int32) (i3 : Int32) (i4 : Int32) (i5 : Int32) : Option (Int32 × AH) :=
  (h_fset A 10 o0 0 (.int i5)).bind fun A1 =>
  (asR (h_fget A1 10 o0 2)).bind fun v3 =>
  (h_acp A1 2 v3 o1 i4 i2 (f5_0 i3 (i5 - i4))).bind fun A4 =>
  f4_107 A4 (f5_0 i3 (i5 - i4))
set_option maxRecDepth 65536 in
set_option maxHeartbeats 4000000 in
theorem w4_77 (K : Cx p l e own_R4 s m meth c Z a0 tables_1 "com/example/sealwire/sealwire/dtls/DatagramRecords" "next" prog_10_method_4_code 7 (some .int)) (sep : ∀ t, Sep Z (own_D t).2) (X : On p l e own_R4 s m args below meth c own_D Z n0 T A cells slots) (o0 : Nat) (o1 : Nat) (i2 : Int32) (i3 : Int32) (i4 : Int32) (i5 : Int32) (x6 : Slot) (hx6 : One x6) (hc : cells + 0 ≤ 0) (hs : slots + 0 ≤ 0) {q : Int32 × AH} (hf : f4_77 A o0 o1 i2 i3 i4 i5 = some q) :
    Go p e below (T.setTop (mkF m 77 #[.val (.ref (n0 + o0)), .val (.ref (n0 + o1)), .val (.int i2), .val (.int i3), .val (.int i4), .val (.int i5), x6] [])) (Fini own_D Z n0 s own_R4 (some (.int q.1)) q.2) := by
  unfold f4_77 at hf
  refine i_aloadN (pc' := 78) K X d4_77 rfl rfl rfl ?_
  refine i_iload (pc' := 80) K X d4_78 rfl rfl ?_
  obtain ⟨A1, g1, hf⟩ := bs hf
  refine putf (pc' := 83) (va := (.int i5)) K sep X (i := 16) rfl d4_80 (t := 10) (f := 0) (by decide) rfl (Or.inl (wd K (i := 17) rfl)) (i2 := 3) rfl (ty := .int) (by decide) rfl rfl g1 rfl (fun T1 X1 => ?_)
  refine i_iloadN (pc' := 84) K X1 d4_83 rfl rfl ?_
  refine i_iload (pc' := 86) K X1 d4_84 rfl rfl ?_
  refine i_iload (pc' := 88) K X1 d4_86 rfl rfl ?_
  refine i_isub (pc' := 89) K X1 d4_88 rfl ?_
  refine calls (pc' := 92) (kc := cells) (ks := slots) (S' := [(.int (f5_0 i3 (i5 - i4)))]) (st := []) K X1 (i1 := 32) rfl (i2 := 33) rfl (i3 := 34) rfl (i4 := 35) rfl (by decide) (rm5 (l := l) (n0 := n0) (K.2.2.2.2.2.2.2.2) A1 i3 (i5 - i4)) pd_5 rfl d4_89 rfl rfl (by decide) (w := 0) (Nat.le_of_eq rfl) (by decide) (show cells + 0 ≤ 0 by omega) (show slots + 0 ≤ 0 by omega) rfl rfl rfl rfl (fun T2 X2 => ?_)
  refine i_istore (pc' := 94) (Ls' := #[.val (.ref (n0 + o0)), .val (.ref (n0 + o1)), .val (.int i2), .val (.int i3), .val (.int i4), .val (.int i5), .val (.int (f5_0 i3 (i5 - i4)))]) K X2 d4_92 rfl (stOne hx6 rfl rfl rfl) ?_
  refine i_aloadN (pc' := 95) K X2 d4_94 rfl rfl rfl ?_
  obtain ⟨v3, g3, hf⟩ := bs hf
  refine getfR (pc' := 98) K X2 (i := 25) rfl d4_95 (t := 10) (f := 2) (by decide) rfl g3 rfl (fun T3 X3 => ?_)
  refine i_iload (pc' := 100) K X3 d4_98 rfl rfl ?_
  refine i_aloadN (pc' := 101) K X3 d4_100 rfl rfl rfl ?_
  refine i_iloadN (pc' := 102) K X3 d4_101 rfl rfl ?_
  refine i_iload (pc' := 104) K X3 d4_102 rfl rfl ?_
  obtain ⟨A4, g4, hf⟩ := bs hf
  refine acp (pc' := 107) K X3 (i1 := 36) rfl (i2 := 39) rfl (i3 := 37) rfl (i4 := 38) rfl d4_104 rfl (t := 2) (by decide) g4 (by decide) (w := 0) (Nat.le_of_eq rfl) (by decide) rfl (fun T4 X4 => ?_)
  exact w4_107 K sep X4 o0 o1 i2 i3 i4 i5 (f5_0 i3 (i5 - i4)) (show cells + 0 ≤ 0 by omega) (show slots + 0 ≤ 0 by omega) hf
def f4_68 (A : AH) (o0 : Nat) (o1 : Nat) (i2 : Int32) (i3 : Int32) (i4 : Int32) (i6 : Int32) (s0 : Int32) (s1 : Int32) (s2 : Int32) : Option (Int32 × AH) :=
  f4_77 A o0 o1 i2 i3 i4 (f5_0 s2 ((s1 + s0) + i6))
set_option maxRecDepth 65536 in
set_option maxHeartbeats 4000000 in
theorem w4_68 (K : Cx p l e own_R4 s m meth c Z a0 tables_1 "com/example/sealwire/sealwire/dtls/DatagramRecords" "next" prog_10_method_4_code 7 (some .int)) (sep : ∀ t, Sep Z (own_D t).2) (X : On p l e own_R4 s m args below meth c own_D Z n0 T A cells slots) (o0 : Nat) (o1 : Nat) (i2 : Int32) (i3 : Int32) (i4 : Int32) (i5 : Int32) (i6 : Int32) (s0 : Int32) (s1 : Int32) (s2 : Int32) (hc : cells + 0 ≤ 0) (hs : slots + 0 ≤ 0) {q : Int32 × AH} (hf : f4_68 A o0 o1 i2 i3 i4 i6 s0 s1 s2 = some q) :
    Go p e below (T.setTop (mkF m 68 #[.val (.ref (n0 + o0)), .val (.ref (n0 + o1)), .val (.int i2), .val (.int i3), .val (.int i4), .val (.int i5), .val (.int i6)] [(.int s0), (.int s1), (.int s2)])) (Fini own_D Z n0 s own_R4 (some (.int q.1)) q.2) := by
  unfold f4_68 at hf
  refine i_iadd (pc' := 69) K X d4_68 rfl ?_
  refine i_iload (pc' := 71) K X d4_69 rfl rfl ?_
  refine i_iadd (pc' := 72) K X d4_71 rfl ?_
  refine calls (pc' := 75) (kc := cells) (ks := slots) (S' := [(.int (f5_0 s2 ((s1 + s0) + i6)))]) (st := []) K X (i1 := 32) rfl (i2 := 33) rfl (i3 := 34) rfl (i4 := 35) rfl (by decide) (rm5 (l := l) (n0 := n0) (K.2.2.2.2.2.2.2.2) A s2 ((s1 + s0) + i6)) pd_5 rfl d4_72 rfl rfl (by decide) (w := 0) (Nat.le_of_eq rfl) (by decide) (show cells + 0 ≤ 0 by omega) (show slots + 0 ≤ 0 by omega) rfl rfl rfl rfl (fun T1 X1 => ?_)
  refine i_istore (pc' := 77) (Ls' := #[.val (.ref (n0 + o0)), .val (.ref (n0 + o1)), .val (.int i2), .val (.int i3), .val (.int i4), .val (.int (f5_0 s2 ((s1 + s0) + i6))), .val (.int i6)]) K X1 d4_75 rfl rfl ?_
  exact w4_77 K sep X1 o0 o1 i2 i3 i4 (f5_0 s2 ((s1 + s0) + i6)) (.val (.int i6)) (One.val rfl) (show cells + 0 ≤ 0 by omega) (show slots + 0 ≤ 0 by omega) hf
def f4_41 (A : AH) (o0 : Nat) (o1 : Nat) (i2 : Int32) (i3 : Int32) (i4 : Int32) (s0 : Int32) : Option (Int32 × AH) :=
  (asR (h_fget A 10 o0 2)).bind fun v1 =>
  (asI (h_aget A 2 v1 ((i4 + (11 : Int32)) + (1 : Int32)))).bind fun v2 =>
  (asI (h_fget A 10 o0 1)).bind fun v3 =>
  f4_68 A o0 o1 i2 i3 i4 (s0 ||| (v2 &&& (255 : Int32))) (13 : Int32) i4 v3
set_option maxRecDepth 65536 in
set_option maxHeartbeats 4000000 in
theorem w4_41 (K : Cx p l e own_R4 s m meth c Z a0 tables_1 "com/example/sealwire/sealwire/dtls/DatagramRecords" "next" prog_10_method_4_code 7 (some .int)) (sep : ∀ t, Sep Z (own_D t).2) (X : On p l e own_R4 s m args below meth c own_D Z n0 T A cells slots) (o0 : Nat) (o1 : Nat) (i2 : Int32) (i3 : Int32) (i4 : Int32) (i5 : Int32) (s0 : Int32) (hc : cells + 0 ≤ 0) (hs : slots + 0 ≤ 0) {q : Int32 × AH} (hf : f4_41 A o0 o1 i2 i3 i4 s0 = some q) :
    Go p e below (T.setTop (mkF m 41 #[.val (.ref (n0 + o0)), .val (.ref (n0 + o1)), .val (.int i2), .val (.int i3), .val (.int i4), .val (.int i5), .unset] [(.int s0)])) (Fini own_D Z n0 s own_R4 (some (.int q.1)) q.2) := by
  unfold f4_41 at hf
  refine i_aloadN (pc' := 42) K X d4_41 rfl rfl rfl ?_
  obtain ⟨v1, g1, hf⟩ := bs hf
  refine getfR (pc' := 45) K X (i := 25) rfl d4_42 (t := 10) (f := 2) (by decide) rfl g1 rfl (fun T1 X1 => ?_)
  refine i_iload (pc' := 47) K X1 d4_45 rfl rfl ?_
  refine i_bipush (pc' := 49) (v := (11 : Int32)) K X1 d4_47 rfl rfl ?_
  refine i_iadd (pc' := 50) K X1 d4_49 rfl ?_
  refine i_iconst (pc' := 51) (v := (1 : Int32)) K X1 d4_50 rfl rfl ?_
  refine i_iadd (pc' := 52) K X1 d4_51 rfl ?_
  obtain ⟨v2, g2, hf⟩ := bs hf
  refine ld2 (pc' := 53) K X1 g2 d4_52 rfl ?_
  refine i_sipush (pc' := 56) (v := (255 : Int32)) K X1 d4_53 rfl rfl ?_
  refine i_iand (pc' := 57) K X1 d4_56 rfl ?_
  refine i_ior (pc' := 58) K X1 d4_57 rfl ?_
  refine i_istore (pc' := 60) (Ls' := #[.val (.ref (n0 + o0)), .val (.ref (n0 + o1)), .val (.int i2), .val (.int i3), .val (.int i4), .val (.int i5), .val (.int (s0 ||| (v2 &&& (255 : Int32))))]) K X1 d4_58 rfl rfl ?_
  refine i_aloadN (pc' := 61) K X1 d4_60 rfl rfl rfl ?_
  obtain ⟨v3, g3, hf⟩ := bs hf
  refine getfI (pc' := 64) K X1 (i := 18) rfl d4_61 (t := 10) (f := 1) (by decide) rfl g3 rfl (fun T3 X3 => ?_)
  refine i_iload (pc' := 66) K X3 d4_64 rfl rfl ?_
  refine i_bipush (pc' := 68) (v := (13 : Int32)) K X3 d4_66 rfl rfl ?_
  exact w4_68 K sep X3 o0 o1 i2 i3 i4 i5 (s0 ||| (v2 &&& (255 : Int32))) (13 : Int32) i4 v3 (show cells + 0 ≤ 0 by omega) (show slots + 0 ≤ 0 by omega) hf
def f4_32 (A : AH) (o0 : Nat) (o1 : Nat) (i2 : Int32) (i3 : Int32) (i4 : Int32) (s0 : Int32) (s1 : Int32) (r2 : Nat) : Option (Int32 × AH) :=
  (asI (h_aget A 2 r2 (s1 + s0))).bind fun v1 =>
  f4_41 A o0 o1 i2 i3 i4 ((v1 &&& (255 : Int32)) <<< ((8 : Int32) &&& 31))
set_option maxRecDepth 65536 in
set_option maxHeartbeats 4000000 in
theorem w4_32 (K : Cx p l e own_R4 s m meth c Z a0 tables_1 "com/example/sealwire/sealwire/dtls/DatagramRecords" "next" prog_10_method_4_code 7 (some .int)) (sep : ∀ t, Sep Z (own_D t).2) (X : On p l e own_R4 s m args below meth c own_D Z n0 T A cells slots) (o0 : Nat) (o1 : Nat) (i2 : Int32) (i3 : Int32) (i4 : Int32) (i5 : Int32) (s0 : Int32) (s1 : Int32) (r2 : Nat) (hc : cells + 0 ≤ 0) (hs : slots + 0 ≤ 0) {q : Int32 × AH} (hf : f4_32 A o0 o1 i2 i3 i4 s0 s1 r2 = some q) :
    Go p e below (T.setTop (mkF m 32 #[.val (.ref (n0 + o0)), .val (.ref (n0 + o1)), .val (.int i2), .val (.int i3), .val (.int i4), .val (.int i5), .unset] [(.int s0), (.int s1), (.ref (n0 + r2))])) (Fini own_D Z n0 s own_R4 (some (.int q.1)) q.2) := by
  unfold f4_32 at hf
  refine i_iadd (pc' := 33) K X d4_32 rfl ?_
  obtain ⟨v1, g1, hf⟩ := bs hf
  refine ld2 (pc' := 34) K X g1 d4_33 rfl ?_
  refine i_sipush (pc' := 37) (v := (255 : Int32)) K X d4_34 rfl rfl ?_
  refine i_iand (pc' := 38) K X d4_37 rfl ?_
  refine i_bipush (pc' := 40) (v := (8 : Int32)) K X d4_38 rfl rfl ?_
  refine i_ishl (pc' := 41) K X d4_40 rfl ?_
  exact w4_41 K sep X o0 o1 i2 i3 i4 i5 ((v1 &&& (255 : Int32)) <<< ((8 : Int32) &&& 31)) (show cells + 0 ≤ 0 by omega) (show slots + 0 ≤ 0 by omega) hf
def f4_0 (A : AH) (o0 : Nat) (o1 : Nat) (i2 : Int32) (i3 : Int32) : Option (Int32 × AH) :=
  (asI (h_fget A 10 o0 0)).bind fun v1 =>
  (asI (h_fget A 10 o0 1)).bind fun v2 =>
  (asI (h_fget A 10 o0 1)).bind fun v3 =>
  if (v3 - v1) < (13 : Int32) then (f4_77 A o0 o1 i2 i3 v1 v2)
  else ((asR (h_fget A 10 o0 2)).bind fun v4 =>
  f4_32 A o0 o1 i2 i3 v1 (11 : Int32) v1 v4)
set_option maxRecDepth 65536 in
set_option maxHeartbeats 4000000 in
theorem w4_0 (K : Cx p l e own_R4 s m meth c Z a0 tables_1 "com/example/sealwire/sealwire/dtls/DatagramRecords" "next" prog_10_method_4_code 7 (some .int)) (sep : ∀ t, Sep Z (own_D t).2) (X : On p l e own_R4 s m args below meth c own_D Z n0 T A cells slots) (o0 : Nat) (o1 : Nat) (i2 : Int32) (i3 : Int32) (hc : cells + 0 ≤ 0) (hs : slots + 0 ≤ 0) {q : Int32 × AH} (hf : f4_0 A o0 o1 i2 i3 = some q) :
    Go p e below (T.setTop (mkF m 0 #[.val (.ref (n0 + o0)), .val (.ref (n0 + o1)), .val (.int i2), .val (.int i3), .unset, .unset, .unset] [])) (Fini own_D Z n0 s own_R4 (some (.int q.1)) q.2) := by
  unfold f4_0 at hf
  refine i_aloadN (pc' := 1) K X d4_0 rfl rfl rfl ?_
  obtain ⟨v1, g1, hf⟩ := bs hf
  refine getfI (pc' := 4) K X (i := 16) rfl d4_1 (t := 10) (f := 0) (by decide) rfl g1 rfl (fun T1 X1 => ?_)
  refine i_istore (pc' := 6) (Ls' := #[.val (.ref (n0 + o0)), .val (.ref (n0 + o1)), .val (.int i2), .val (.int i3), .val (.int v1), .unset, .unset]) K X1 d4_4 rfl rfl ?_
  refine i_aloadN (pc' := 7) K X1 d4_6 rfl rfl rfl ?_
  obtain ⟨v2, g2, hf⟩ := bs hf
  refine getfI (pc' := 10) K X1 (i := 18) rfl d4_7 (t := 10) (f := 1) (by decide) rfl g2 rfl (fun T2 X2 => ?_)
  refine i_istore (pc' := 12) (Ls' := #[.val (.ref (n0 + o0)), .val (.ref (n0 + o1)), .val (.int i2), .val (.int i3), .val (.int v1), .val (.int v2), .unset]) K X2 d4_10 rfl rfl ?_
  refine i_aloadN (pc' := 13) K X2 d4_12 rfl rfl rfl ?_
  obtain ⟨v3, g3, hf⟩ := bs hf
  refine getfI (pc' := 16) K X2 (i := 18) rfl d4_13 (t := 10) (f := 1) (by decide) rfl g3 rfl (fun T3 X3 => ?_)
  refine i_iload (pc' := 18) K X3 d4_16 rfl rfl ?_
  refine i_isub (pc' := 19) K X3 d4_18 rfl ?_
  refine i_bipush (pc' := 21) (v := (13 : Int32)) K X3 d4_19 rfl rfl ?_
  by_cases hc21 : (v3 - v1) < (13 : Int32)
  · rw [if_pos hc21] at hf
    refine i_icmpYes (pc' := 77) K X3 d4_21 (tlt hc21).1 (by decide) (by decide) ?_
    exact w4_77 K sep X3 o0 o1 i2 i3 v1 v2 .unset One.u (show cells + 0 ≤ 0 by omega) (show slots + 0 ≤ 0 by omega) hf
  · rw [if_neg hc21] at hf
    refine i_icmpNo (pc' := 24) K X3 d4_21 rfl (flt hc21).1 ?_
    refine i_aloadN (pc' := 25) K X3 d4_24 rfl rfl rfl ?_
    obtain ⟨v4, g4, hf⟩ := bs hf
    refine getfR (pc' := 28) K X3 (i := 25) rfl d4_25 (t := 10) (f := 2) (by decide) rfl g4 rfl (fun T4 X4 => ?_)
    refine i_iload (pc' := 30) K X4 d4_28 rfl rfl ?_
    refine i_bipush (pc' := 32) (v := (11 : Int32)) K X4 d4_30 rfl rfl ?_
    exact w4_32 K sep X4 o0 o1 i2 i3 v1 v2 (11 : Int32) v1 v4 (show cells + 0 ≤ 0 by omega) (show slots + 0 ≤ 0 by omega) hf
theorem pn_4 : plainName "com/example/sealwire/sealwire/dtls/DatagramRecords" = true := by first | (simp [plainName, overriddenIn]; done) | decide +kernel
theorem rm4 {l : Launch} {Z : State} {a0 : Array Value} {n0 : Nat} (hw : ∀ d ∈ tables_1, d.before a0 Z = true) (A : AH) (o0 : Nat) (o1 : Nat) (i2 : Int32) (i3 : Int32) {q : Int32 × AH} (hf : f4_0 A o0 o1 i2 i3 = some q) :
    Met l own_D Z n0 (⟨"com/example/sealwire/sealwire/dtls/DatagramRecords", "next", "([BII)I"⟩ : MethodName) prog_10_method_4_code 7 (some .int) own_R4 [(.ref (n0 + o0)), (.ref (n0 + o1)), (.int i2), (.int i3)] A (some (.int q.1)) q.2 :=
  met (W := tables_1) (a0 := a0) (own := "com/example/sealwire/sealwire/dtls/DatagramRecords") (nm := "next") (L0 := #[.val (.ref (n0 + o0)), .val (.ref (n0 + o1)), .val (.int i2), .val (.int i3), .unset, .unset, .unset]) (plainFor_of_name pn_4) hw rfl rfl (fun m => by first | (simp [entryFrame, mkF, argsToLocals, Value.category]; done) | rfl) (fun p e s m below meth c T K X => w4_0 K (own_sep hw) X o0 o1 i2 i3 (show 0 + 0 ≤ 0 by decide) (show 0 + 0 ≤ 0 by decide) hf)
def f0_589 (A : AH) (s0 : Int32) : Option (Int32 × AH) :=
  some ((nar .boolean s0), A)
set_option maxRecDepth 65536 in
set_option maxHeartbeats 4000000 in
theorem w0_589 (K : Cx p l e room_1 s m meth c Z a0 tables_1 "com/example/sealwire/sealwire/dtls/DatagramRecordsHasNextPinLaw" "law" code maxLocals ret) (sep : ∀ t, Sep Z (own_D t).2) (X : On p l e room_1 s m args below meth c own_D Z n0 T A cells slots) (i0 : Int32) (i1 : Int32) (i2 : Int32) (i3 : Int32) (i4 : Int32) (i5 : Int32) (i6 : Int32) (i7 : Int32) (o8 : Nat) (o9 : Nat) (i10 : Int32) (i11 : Int32) (i12 : Int32) (i13 : Int32) (o14 : Nat) (i15 : Int32) (s0 : Int32) (hc : cells + 0 ≤ 16) (hs : slots + 0 ≤ 256) {q : Int32 × AH} (hf : f0_589 A s0 = some q) :
    Go p e below (T.setTop (mkF m 589 #[.val (.int i0), .val (.int i1), .val (.int i2), .val (.int i3), .val (.int i4), .val (.int i5), .val (.int i6), .val (.int i7), .val (.ref (n0 + o8)), .val (.ref (n0 + o9)), .val (.int i10), .val (.int i11), .val (.int i12), .val (.int i13), .val (.ref (n0 + o14)), .val (.int i15)] [(.int s0)])) (Fini own_D Z n0 s room_1 (some (.int q.1)) q.2) := by
  unfold f0_589 at hf
  refine i_istore (pc' := 591) (Ls' := #[.val (.int i0), .val (.int i1), .val (.int i2), .val (.int i3), .val (.int i4), .val (.int i5), .val (.int i6), .val (.int i7), .val (.ref (n0 + o8)), .val (.ref (n0 + o9)), .val (.int i10), .val (.int i11), .val (.int i12), .val (.int i13), .val (.ref (n0 + o14)), .val (.int s0)]) K X at_589 rfl rfl ?_
  refine i_iload (pc' := 593) K X at_591 rfl rfl ?_
  cases hf
  exact retB K (by simp) X (show cells ≤ 16 by omega) (show slots ≤ 256 by omega) at_593
def f0_588 (A : AH)  : Option (Int32 × AH) :=
  f0_589 A (0 : Int32)
set_option maxRecDepth 65536 in
set_option maxHeartbeats 4000000 in
theorem w0_588 (K : Cx p l e room_1 s m meth c Z a0 tables_1 "com/example/sealwire/sealwire/dtls/DatagramRecordsHasNextPinLaw" "law" code maxLocals ret) (sep : ∀ t, Sep Z (own_D t).2) (X : On p l e room_1 s m args below meth c own_D Z n0 T A cells slots) (i0 : Int32) (i1 : Int32) (i2 : Int32) (i3 : Int32) (i4 : Int32) (i5 : Int32) (i6 : Int32) (i7 : Int32) (o8 : Nat) (o9 : Nat) (i10 : Int32) (i11 : Int32) (i12 : Int32) (i13 : Int32) (o14 : Nat) (i15 : Int32) (hc : cells + 0 ≤ 16) (hs : slots + 0 ≤ 256) {q : Int32 × AH} (hf : f0_588 A  = some q) :
    Go p e below (T.setTop (mkF m 588 #[.val (.int i0), .val (.int i1), .val (.int i2), .val (.int i3), .val (.int i4), .val (.int i5), .val (.int i6), .val (.int i7), .val (.ref (n0 + o8)), .val (.ref (n0 + o9)), .val (.int i10), .val (.int i11), .val (.int i12), .val (.int i13), .val (.ref (n0 + o14)), .val (.int i15)] [])) (Fini own_D Z n0 s room_1 (some (.int q.1)) q.2) := by
  unfold f0_588 at hf
  refine i_iconst (pc' := 589) (v := (0 : Int32)) K X at_588 rfl rfl ?_
  exact w0_589 K sep X i0 i1 i2 i3 i4 i5 i6 i7 o8 o9 i10 i11 i12 i13 o14 i15 (0 : Int32) (show cells + 0 ≤ 16 by omega) (show slots + 0 ≤ 256 by omega) hf
def f0_581 (A : AH) (s0 : Int32) (s1 : Int32) : Option (Int32 × AH) :=
  if s1 = s0 then (f0_589 A (1 : Int32))
  else (f0_588 A )
set_option maxRecDepth 65536 in
set_option maxHeartbeats 4000000 in
theorem w0_581 (K : Cx p l e room_1 s m meth c Z a0 tables_1 "com/example/sealwire/sealwire/dtls/DatagramRecordsHasNextPinLaw" "law" code maxLocals ret) (sep : ∀ t, Sep Z (own_D t).2) (X : On p l e room_1 s m args below meth c own_D Z n0 T A cells slots) (i0 : Int32) (i1 : Int32) (i2 : Int32) (i3 : Int32) (i4 : Int32) (i5 : Int32) (i6 : Int32) (i7 : Int32) (o8 : Nat) (o9 : Nat) (i10 : Int32) (i11 : Int32) (i12 : Int32) (i13 : Int32) (o14 : Nat) (i15 : Int32) (s0 : Int32) (s1 : Int32) (hc : cells + 0 ≤ 16) (hs : slots + 0 ≤ 256) {q : Int32 × AH} (hf : f0_581 A s0 s1 = some q) :
    Go p e below (T.setTop (mkF m 581 #[.val (.int i0), .val (.int i1), .val (.int i2), .val (.int i3), .val (.int i4), .val (.int i5), .val (.int i6), .val (.int i7), .val (.ref (n0 + o8)), .val (.ref (n0 + o9)), .val (.int i10), .val (.int i11), .val (.int i12), .val (.int i13), .val (.ref (n0 + o14)), .val (.int i15)] [(.int s0), (.int s1)])) (Fini own_D Z n0 s room_1 (some (.int q.1)) q.2) := by
  unfold f0_581 at hf
  by_cases hc581 : s1 = s0
  · rw [if_pos hc581] at hf
    refine i_icmpNo (pc' := 584) K X at_581 rfl (teq hc581).2 ?_
    refine i_iconst (pc' := 585) (v := (1 : Int32)) K X at_584 rfl rfl ?_
    refine i_goto (pc' := 589) K X at_585 (by decide) (by decide) ?_
    exact w0_589 K sep X i0 i1 i2 i3 i4 i5 i6 i7 o8 o9 i10 i11 i12 i13 o14 i15 (1 : Int32) (show cells + 0 ≤ 16 by omega) (show slots + 0 ≤ 256 by omega) hf
  · rw [if_neg hc581] at hf
    refine i_icmpYes (pc' := 588) K X at_581 (feq hc581).2 (by decide) (by decide) ?_
    exact w0_588 K sep X i0 i1 i2 i3 i4 i5 i6 i7 o8 o9 i10 i11 i12 i13 o14 i15 (show cells + 0 ≤ 16 by omega) (show slots + 0 ≤ 256 by omega) hf
def f0_550 (A : AH) (i5 : Int32) (o8 : Nat) (o14 : Nat) (s0 : Int32) : Option (Int32 × AH) :=
  (h_isA A 10 o14).bind fun y2 =>
  (f3_0 A o14 o8 i5).bind fun A1 =>
  if s0 = (0 : Int32) then (f0_588 A1 )
  else ((h_isA A1 10 o14).bind fun y4 =>
  (f2_0 A1 o14).bind fun q3 =>
  if (0 : Int32) < i5 then (f0_581 q3.2 (1 : Int32) q3.1)
  else (f0_581 q3.2 (0 : Int32) q3.1))
set_option maxRecDepth 65536 in
set_option maxHeartbeats 4000000 in
theorem w0_550 (K : Cx p l e room_1 s m meth c Z a0 tables_1 "com/example/sealwire/sealwire/dtls/DatagramRecordsHasNextPinLaw" "law" code maxLocals ret) (sep : ∀ t, Sep Z (own_D t).2) (X : On p l e room_1 s m args below meth c own_D Z n0 T A cells slots) (i0 : Int32) (i1 : Int32) (i2 : Int32) (i3 : Int32) (i4 : Int32) (i5 : Int32) (i6 : Int32) (i7 : Int32) (o8 : Nat) (o9 : Nat) (i10 : Int32) (i11 : Int32) (i12 : Int32) (i13 : Int32) (o14 : Nat) (i15 : Int32) (s0 : Int32) (hc : cells + 0 ≤ 16) (hs : slots + 0 ≤ 256) {q : Int32 × AH} (hf : f0_550 A i5 o8 o14 s0 = some q) :
    Go p e below (T.setTop (mkF m 550 #[.val (.int i0), .val (.int i1), .val (.int i2), .val (.int i3), .val (.int i4), .val (.int i5), .val (.int i6), .val (.int i7), .val (.ref (n0 + o8)), .val (.ref (n0 + o9)), .val (.int i10), .val (.int i11), .val (.int i12), .val (.int i13), .val (.ref (n0 + o14)), .val (.int i15)] [(.int s0)])) (Fini own_D Z n0 s room_1 (some (.int q.1)) q.2) := by
  unfold f0_550 at hf
  refine i_istore (pc' := 552) (Ls' := #[.val (.int i0), .val (.int i1), .val (.int i2), .val (.int i3), .val (.int i4), .val (.int i5), .val (.int i6), .val (.int i7), .val (.ref (n0 + o8)), .val (.ref (n0 + o9)), .val (.int i10), .val (.int i11), .val (.int i12), .val (.int i13), .val (.ref (n0 + o14)), .val (.int s0)]) K X at_550 rfl rfl ?_
  refine i_aload (pc' := 554) K X at_552 rfl rfl rfl ?_
  refine i_aload (pc' := 556) K X at_554 rfl rfl rfl ?_
  refine i_iload (pc' := 558) K X at_556 rfl rfl ?_
  obtain ⟨y2, g2, hf⟩ := bs hf
  obtain ⟨A1, g1, hf⟩ := bs hf
  refine callv (pc' := 561) (kc := cells) (ks := slots) (S' := []) (st := []) K X (i1 := 20) rfl (i2 := 21) rfl (i5 := 23) (t := 10) rfl (i6 := 22) rfl (i3 := 4) rfl (i4 := 24) rfl (by decide) (by decide) g2 (rm3 (l := l) (n0 := n0) (K.2.2.2.2.2.2.2.2) A o14 o8 i5 g1) pd_3 rfl at_558 rfl rfl (by decide) (w := 0) (Nat.le_of_eq rfl) (by decide) (show cells + 0 ≤ 16 by omega) (show slots + 0 ≤ 256 by omega) rfl rfl rfl rfl (fun T1 X1 => ?_)
  refine i_iload (pc' := 563) K X1 at_561 rfl rfl ?_
  by_cases hc563 : s0 = (0 : Int32)
  · rw [if_pos hc563] at hf
    refine i_ifYes (pc' := 588) K X1 at_563 (teq hc563).1 (by decide) (by decide) ?_
    exact w0_588 K sep X1 i0 i1 i2 i3 i4 i5 i6 i7 o8 o9 i10 i11 i12 i13 o14 s0 (show cells + 0 ≤ 16 by omega) (show slots + 0 ≤ 256 by omega) hf
  · rw [if_neg hc563] at hf
    refine i_ifNo (pc' := 566) K X1 at_563 rfl (feq hc563).1 ?_
    refine i_aload (pc' := 568) K X1 at_566 rfl rfl rfl ?_
    obtain ⟨y4, g4, hf⟩ := bs hf
    obtain ⟨q3, g3, hf⟩ := bs hf
    refine callv (pc' := 571) (kc := cells) (ks := slots) (S' := [(.int q3.1)]) (st := []) K X1 (i1 := 11) rfl (i2 := 12) rfl (i5 := 14) (t := 10) rfl (i6 := 13) rfl (i3 := 4) rfl (i4 := 15) rfl (by decide) (by decide) g4 (rm2 (l := l) (n0 := n0) (K.2.2.2.2.2.2.2.2) A1 o14 g3) pd_2 rfl at_568 rfl rfl (by decide) (w := 0) (Nat.le_of_eq rfl) (by decide) (show cells + 0 ≤ 16 by omega) (show slots + 0 ≤ 256 by omega) rfl rfl rfl rfl (fun T3 X3 => ?_)
    refine i_iload (pc' := 573) K X3 at_571 rfl rfl ?_
    by_cases hc573 : (0 : Int32) < i5
    · rw [if_pos hc573] at hf
      refine i_ifNo (pc' := 576) K X3 at_573 rfl (tlt hc573).2.2.2 ?_
      refine i_iconst (pc' := 577) (v := (1 : Int32)) K X3 at_576 rfl rfl ?_
      refine i_goto (pc' := 581) K X3 at_577 (by decide) (by decide) ?_
      exact w0_581 K sep X3 i0 i1 i2 i3 i4 i5 i6 i7 o8 o9 i10 i11 i12 i13 o14 s0 (1 : Int32) q3.1 (show cells + 0 ≤ 16 by omega) (show slots + 0 ≤ 256 by omega) hf
    · rw [if_neg hc573] at hf
      refine i_ifYes (pc' := 580) K X3 at_573 (flt hc573).2.2.2 (by decide) (by decide) ?_
      refine i_iconst (pc' := 581) (v := (0 : Int32)) K X3 at_580 rfl rfl ?_
      exact w0_581 K sep X3 i0 i1 i2 i3 i4 i5 i6 i7 o8 o9 i10 i11 i12 i13 o14 s0 (0 : Int32) q3.1 (show cells + 0 ≤ 16 by omega) (show slots + 0 ≤ 256 by omega) hf
def f0_549 (A : AH) (i5 : Int32) (o8 : Nat) (o14 : Nat) : Option (Int32 × AH) :=
  f0_550 A i5 o8 o14 (0 : Int32)
set_option maxRecDepth 65536 in
set_option maxHeartbeats 4000000 in
theorem w0_549 (K : Cx p l e room_1 s m meth c Z a0 tables_1 "com/example/sealwire/sealwire/dtls/DatagramRecordsHasNextPinLaw" "law" code maxLocals ret) (sep : ∀ t, Sep Z (own_D t).2) (X : On p l e room_1 s m args below meth c own_D Z n0 T A cells slots) (i0 : Int32) (i1 : Int32) (i2 : Int32) (i3 : Int32) (i4 : Int32) (i5 : Int32) (i6 : Int32) (i7 : Int32) (o8 : Nat) (o9 : Nat) (i10 : Int32) (i11 : Int32) (i12 : Int32) (i13 : Int32) (o14 : Nat) (i15 : Int32) (hc : cells + 0 ≤ 16) (hs : slots + 0 ≤ 256) {q : Int32 × AH} (hf : f0_549 A i5 o8 o14 = some q) :
    Go p e below (T.setTop (mkF m 549 #[.val (.int i0), .val (.int i1), .val (.int i2), .val (.int i3), .val (.int i4), .val (.int i5), .val (.int i6), .val (.int i7), .val (.ref (n0 + o8)), .val (.ref (n0 + o9)), .val (.int i10), .val (.int i11), .val (.int i12), .val (.int i13), .val (.ref (n0 + o14)), .val (.int i15)] [])) (Fini own_D Z n0 s room_1 (some (.int q.1)) q.2) := by
  unfold f0_549 at hf
  refine i_iconst (pc' := 550) (v := (0 : Int32)) K X at_549 rfl rfl ?_
  exact w0_550 K sep X i0 i1 i2 i3 i4 i5 i6 i7 o8 o9 i10 i11 i12 i13 o14 i15 (0 : Int32) (show cells + 0 ≤ 16 by omega) (show slots + 0 ≤ 256 by omega) hf
def f0_542 (A : AH) (i5 : Int32) (o8 : Nat) (o14 : Nat) (s0 : Int32) (s1 : Int32) : Option (Int32 × AH) :=
  if s1 = s0 then (f0_550 A i5 o8 o14 (1 : Int32))
  else (f0_549 A i5 o8 o14)
set_option maxRecDepth 65536 in
set_option maxHeartbeats 4000000 in
theorem w0_542 (K : Cx p l e room_1 s m meth c Z a0 tables_1 "com/example/sealwire/sealwire/dtls/DatagramRecordsHasNextPinLaw" "law" code maxLocals ret) (sep : ∀ t, Sep Z (own_D t).2) (X : On p l e room_1 s m args below meth c own_D Z n0 T A cells slots) (i0 : Int32) (i1 : Int32) (i2 : Int32) (i3 : Int32) (i4 : Int32) (i5 : Int32) (i6 : Int32) (i7 : Int32) (o8 : Nat) (o9 : Nat) (i10 : Int32) (i11 : Int32) (i12 : Int32) (i13 : Int32) (o14 : Nat) (i15 : Int32) (s0 : Int32) (s1 : Int32) (hc : cells + 0 ≤ 16) (hs : slots + 0 ≤ 256) {q : Int32 × AH} (hf : f0_542 A i5 o8 o14 s0 s1 = some q) :
    Go p e below (T.setTop (mkF m 542 #[.val (.int i0), .val (.int i1), .val (.int i2), .val (.int i3), .val (.int i4), .val (.int i5), .val (.int i6), .val (.int i7), .val (.ref (n0 + o8)), .val (.ref (n0 + o9)), .val (.int i10), .val (.int i11), .val (.int i12), .val (.int i13), .val (.ref (n0 + o14)), .val (.int i15)] [(.int s0), (.int s1)])) (Fini own_D Z n0 s room_1 (some (.int q.1)) q.2) := by
  unfold f0_542 at hf
  by_cases hc542 : s1 = s0
  · rw [if_pos hc542] at hf
    refine i_icmpNo (pc' := 545) K X at_542 rfl (teq hc542).2 ?_
    refine i_iconst (pc' := 546) (v := (1 : Int32)) K X at_545 rfl rfl ?_
    refine i_goto (pc' := 550) K X at_546 (by decide) (by decide) ?_
    exact w0_550 K sep X i0 i1 i2 i3 i4 i5 i6 i7 o8 o9 i10 i11 i12 i13 o14 i15 (1 : Int32) (show cells + 0 ≤ 16 by omega) (show slots + 0 ≤ 256 by omega) hf
  · rw [if_neg hc542] at hf
    refine i_icmpYes (pc' := 549) K X at_542 (feq hc542).2 (by decide) (by decide) ?_
    exact w0_549 K sep X i0 i1 i2 i3 i4 i5 i6 i7 o8 o9 i10 i11 i12 i13 o14 i15 (show cells + 0 ≤ 16 by omega) (show slots + 0 ≤ 256 by omega) hf
def f0_507 (A : AH) (i4 : Int32) (i5 : Int32) (o8 : Nat) (o9 : Nat) (i13 : Int32) (o14 : Nat) (s0 : Int32) : Option (Int32 × AH) :=
  (h_isA A 10 o14).bind fun y2 =>
  (f4_0 A o14 o9 (0 : Int32) (40 : Int32)).bind fun q1 =>
  if s0 = (0 : Int32) then (f0_549 q1.2 i5 o8 o14)
  else ((h_isA q1.2 10 o14).bind fun y4 =>
  (f2_0 q1.2 o14).bind fun q3 =>
  if i13 < i4 then (f0_542 q3.2 i5 o8 o14 (1 : Int32) q3.1)
  else (f0_542 q3.2 i5 o8 o14 (0 : Int32) q3.1))
set_option maxRecDepth 65536 in
set_option maxHeartbeats 4000000 in
theorem w0_507 (K : Cx p l e room_1 s m meth c Z a0 tables_1 "com/example/sealwire/sealwire/dtls/DatagramRecordsHasNextPinLaw" "law" code maxLocals ret) (sep : ∀ t, Sep Z (own_D t).2) (X : On p l e room_1 s m args below meth c own_D Z n0 T A cells slots) (i0 : Int32) (i1 : Int32) (i2 : Int32) (i3 : Int32) (i4 : Int32) (i5 : Int32) (i6 : Int32) (i7 : Int32) (o8 : Nat) (o9 : Nat) (i10 : Int32) (i11 : Int32) (i12 : Int32) (i13 : Int32) (o14 : Nat) (i15 : Int32) (s0 : Int32) (hc : cells + 0 ≤ 16) (hs : slots + 0 ≤ 256) {q : Int32 × AH} (hf : f0_507 A i4 i5 o8 o9 i13 o14 s0 = some q) :
    Go p e below (T.setTop (mkF m 507 #[.val (.int i0), .val (.int i1), .val (.int i2), .val (.int i3), .val (.int i4), .val (.int i5), .val (.int i6), .val (.int i7), .val (.ref (n0 + o8)), .val (.ref (n0 + o9)), .val (.int i10), .val (.int i11), .val (.int i12), .val (.int i13), .val (.ref (n0 + o14)), .val (.int i15)] [(.int s0)])) (Fini own_D Z n0 s room_1 (some (.int q.1)) q.2) := by
  unfold f0_507 at hf
  refine i_istore (pc' := 509) (Ls' := #[.val (.int i0), .val (.int i1), .val (.int i2), .val (.int i3), .val (.int i4), .val (.int i5), .val (.int i6), .val (.int i7), .val (.ref (n0 + o8)), .val (.ref (n0 + o9)), .val (.int i10), .val (.int i11), .val (.int i12), .val (.int i13), .val (.ref (n0 + o14)), .val (.int s0)]) K X at_507 rfl rfl ?_
  refine i_aload (pc' := 511) K X at_509 rfl rfl rfl ?_
  refine i_aload (pc' := 513) K X at_511 rfl rfl rfl ?_
  refine i_iconst (pc' := 514) (v := (0 : Int32)) K X at_513 rfl rfl ?_
  refine i_bipush (pc' := 516) (v := (40 : Int32)) K X at_514 rfl rfl ?_
  obtain ⟨y2, g2, hf⟩ := bs hf
  obtain ⟨q1, g1, hf⟩ := bs hf
  refine callv (pc' := 519) (kc := cells) (ks := slots) (S' := [(.int q1.1)]) (st := []) K X (i1 := 27) rfl (i2 := 28) rfl (i5 := 30) (t := 10) rfl (i6 := 29) rfl (i3 := 4) rfl (i4 := 31) rfl (by decide) (by decide) g2 (rm4 (l := l) (n0 := n0) (K.2.2.2.2.2.2.2.2) A o14 o9 (0 : Int32) (40 : Int32) g1) pd_4 rfl at_516 rfl rfl (by decide) (w := 0) (Nat.le_of_eq rfl) (by decide) (show cells + 0 ≤ 16 by omega) (show slots + 0 ≤ 256 by omega) rfl rfl rfl rfl (fun T1 X1 => ?_)
  refine i_pop (pc' := 520) K X1 at_519 rfl rfl ?_
  refine i_iload (pc' := 522) K X1 at_520 rfl rfl ?_
  by_cases hc522 : s0 = (0 : Int32)
  · rw [if_pos hc522] at hf
    refine i_ifYes (pc' := 549) K X1 at_522 (teq hc522).1 (by decide) (by decide) ?_
    exact w0_549 K sep X1 i0 i1 i2 i3 i4 i5 i6 i7 o8 o9 i10 i11 i12 i13 o14 s0 (show cells + 0 ≤ 16 by omega) (show slots + 0 ≤ 256 by omega) hf
  · rw [if_neg hc522] at hf
    refine i_ifNo (pc' := 525) K X1 at_522 rfl (feq hc522).1 ?_
    refine i_aload (pc' := 527) K X1 at_525 rfl rfl rfl ?_
    obtain ⟨y4, g4, hf⟩ := bs hf
    obtain ⟨q3, g3, hf⟩ := bs hf
    refine callv (pc' := 530) (kc := cells) (ks := slots) (S' := [(.int q3.1)]) (st := []) K X1 (i1 := 11) rfl (i2 := 12) rfl (i5 := 14) (t := 10) rfl (i6 := 13) rfl (i3 := 4) rfl (i4 := 15) rfl (by decide) (by decide) g4 (rm2 (l := l) (n0 := n0) (K.2.2.2.2.2.2.2.2) q1.2 o14 g3) pd_2 rfl at_527 rfl rfl (by decide) (w := 0) (Nat.le_of_eq rfl) (by decide) (show cells + 0 ≤ 16 by omega) (show slots + 0 ≤ 256 by omega) rfl rfl rfl rfl (fun T3 X3 => ?_)
    refine i_iload (pc' := 532) K X3 at_530 rfl rfl ?_
    refine i_iload (pc' := 534) K X3 at_532 rfl rfl ?_
    by_cases hc534 : i13 < i4
    · rw [if_pos hc534] at hf
      refine i_icmpNo (pc' := 537) K X3 at_534 rfl (tlt hc534).2.1 ?_
      refine i_iconst (pc' := 538) (v := (1 : Int32)) K X3 at_537 rfl rfl ?_
      refine i_goto (pc' := 542) K X3 at_538 (by decide) (by decide) ?_
      exact w0_542 K sep X3 i0 i1 i2 i3 i4 i5 i6 i7 o8 o9 i10 i11 i12 i13 o14 s0 (1 : Int32) q3.1 (show cells + 0 ≤ 16 by omega) (show slots + 0 ≤ 256 by omega) hf
    · rw [if_neg hc534] at hf
      refine i_icmpYes (pc' := 541) K X3 at_534 (flt hc534).2.1 (by decide) (by decide) ?_
      refine i_iconst (pc' := 542) (v := (0 : Int32)) K X3 at_541 rfl rfl ?_
      exact w0_542 K sep X3 i0 i1 i2 i3 i4 i5 i6 i7 o8 o9 i10 i11 i12 i13 o14 s0 (0 : Int32) q3.1 (show cells + 0 ≤ 16 by omega) (show slots + 0 ≤ 256 by omega) hf
def f0_506 (A : AH) (i4 : Int32) (i5 : Int32) (o8 : Nat) (o9 : Nat) (i13 : Int32) (o14 : Nat) : Option (Int32 × AH) :=
  f0_507 A i4 i5 o8 o9 i13 o14 (0 : Int32)
set_option maxRecDepth 65536 in
set_option maxHeartbeats 4000000 in
theorem w0_506 (K : Cx p l e room_1 s m meth c Z a0 tables_1 "com/example/sealwire/sealwire/dtls/DatagramRecordsHasNextPinLaw" "law" code maxLocals ret) (sep : ∀ t, Sep Z (own_D t).2) (X : On p l e room_1 s m args below meth c own_D Z n0 T A cells slots) (i0 : Int32) (i1 : Int32) (i2 : Int32) (i3 : Int32) (i4 : Int32) (i5 : Int32) (i6 : Int32) (i7 : Int32) (o8 : Nat) (o9 : Nat) (i10 : Int32) (i11 : Int32) (i12 : Int32) (i13 : Int32) (o14 : Nat) (i15 : Int32) (hc : cells + 0 ≤ 16) (hs : slots + 0 ≤ 256) {q : Int32 × AH} (hf : f0_506 A i4 i5 o8 o9 i13 o14 = some q) :
    Go p e below (T.setTop (mkF m 506 #[.val (.int i0), .val (.int i1), .val (.int i2), .val (.int i3), .val (.int i4), .val (.int i5), .val (.int i6), .val (.int i7), .val (.ref (n0 + o8)), .val (.ref (n0 + o9)), .val (.int i10), .val (.int i11), .val (.int i12), .val (.int i13), .val (.ref (n0 + o14)), .val (.int i15)] [])) (Fini own_D Z n0 s room_1 (some (.int q.1)) q.2) := by
  unfold f0_506 at hf
  refine i_iconst (pc' := 507) (v := (0 : Int32)) K X at_506 rfl rfl ?_
  exact w0_507 K sep X i0 i1 i2 i3 i4 i5 i6 i7 o8 o9 i10 i11 i12 i13 o14 i15 (0 : Int32) (show cells + 0 ≤ 16 by omega) (show slots + 0 ≤ 256 by omega) hf
def f0_499 (A : AH) (i4 : Int32) (i5 : Int32) (o8 : Nat) (o9 : Nat) (i13 : Int32) (o14 : Nat) (s0 : Int32) (s1 : Int32) : Option (Int32 × AH) :=
  if s1 = s0 then (f0_507 A i4 i5 o8 o9 i13 o14 (1 : Int32))
  else (f0_506 A i4 i5 o8 o9 i13 o14)
set_option maxRecDepth 65536 in
set_option maxHeartbeats 4000000 in
theorem w0_499 (K : Cx p l e room_1 s m meth c Z a0 tables_1 "com/example/sealwire/sealwire/dtls/DatagramRecordsHasNextPinLaw" "law" code maxLocals ret) (sep : ∀ t, Sep Z (own_D t).2) (X : On p l e room_1 s m args below meth c own_D Z n0 T A cells slots) (i0 : Int32) (i1 : Int32) (i2 : Int32) (i3 : Int32) (i4 : Int32) (i5 : Int32) (i6 : Int32) (i7 : Int32) (o8 : Nat) (o9 : Nat) (i10 : Int32) (i11 : Int32) (i12 : Int32) (i13 : Int32) (o14 : Nat) (i15 : Int32) (s0 : Int32) (s1 : Int32) (hc : cells + 0 ≤ 16) (hs : slots + 0 ≤ 256) {q : Int32 × AH} (hf : f0_499 A i4 i5 o8 o9 i13 o14 s0 s1 = some q) :
    Go p e below (T.setTop (mkF m 499 #[.val (.int i0), .val (.int i1), .val (.int i2), .val (.int i3), .val (.int i4), .val (.int i5), .val (.int i6), .val (.int i7), .val (.ref (n0 + o8)), .val (.ref (n0 + o9)), .val (.int i10), .val (.int i11), .val (.int i12), .val (.int i13), .val (.ref (n0 + o14)), .val (.int i15)] [(.int s0), (.int s1)])) (Fini own_D Z n0 s room_1 (some (.int q.1)) q.2) := by
  unfold f0_499 at hf
  by_cases hc499 : s1 = s0
  · rw [if_pos hc499] at hf
    refine i_icmpNo (pc' := 502) K X at_499 rfl (teq hc499).2 ?_
    refine i_iconst (pc' := 503) (v := (1 : Int32)) K X at_502 rfl rfl ?_
    refine i_goto (pc' := 507) K X at_503 (by decide) (by decide) ?_
    exact w0_507 K sep X i0 i1 i2 i3 i4 i5 i6 i7 o8 o9 i10 i11 i12 i13 o14 i15 (1 : Int32) (show cells + 0 ≤ 16 by omega) (show slots + 0 ≤ 256 by omega) hf
  · rw [if_neg hc499] at hf
    refine i_icmpYes (pc' := 506) K X at_499 (feq hc499).2 (by decide) (by decide) ?_
    exact w0_506 K sep X i0 i1 i2 i3 i4 i5 i6 i7 o8 o9 i10 i11 i12 i13 o14 i15 (show cells + 0 ≤ 16 by omega) (show slots + 0 ≤ 256 by omega) hf
def f0_464 (A : AH) (i4 : Int32) (i5 : Int32) (o8 : Nat) (o9 : Nat) (i12 : Int32) (i13 : Int32) (o14 : Nat) (s0 : Int32) : Option (Int32 × AH) :=
  (h_isA A 10 o14).bind fun y2 =>
  (f4_0 A o14 o9 (0 : Int32) (40 : Int32)).bind fun q1 =>
  if s0 = (0 : Int32) then (f0_506 q1.2 i4 i5 o8 o9 i13 o14)
  else ((h_isA q1.2 10 o14).bind fun y4 =>
  (f2_0 q1.2 o14).bind fun q3 =>
  if i12 < i4 then (f0_499 q3.2 i4 i5 o8 o9 i13 o14 (1 : Int32) q3.1)
  else (f0_499 q3.2 i4 i5 o8 o9 i13 o14 (0 : Int32) q3.1))
set_option maxRecDepth 65536 in
set_option maxHeartbeats 4000000 in
theorem w0_464 (K : Cx p l e room_1 s m meth c Z a0 tables_1 "com/example/sealwire/sealwire/dtls/DatagramRecordsHasNextPinLaw" "law" code maxLocals ret) (sep : ∀ t, Sep Z (own_D t).2) (X : On p l e room_1 s m args below meth c own_D Z n0 T A cells slots) (i0 : Int32) (i1 : Int32) (i2 : Int32) (i3 : Int32) (i4 : Int32) (i5 : Int32) (i6 : Int32) (i7 : Int32) (o8 : Nat) (o9 : Nat) (i10 : Int32) (i11 : Int32) (i12 : Int32) (i13 : Int32) (o14 : Nat) (i15 : Int32) (s0 : Int32) (hc : cells + 0 ≤ 16) (hs : slots + 0 ≤ 256) {q : Int32 × AH} (hf : f0_464 A i4 i5 o8 o9 i12 i13 o14 s0 = some q) :
    Go p e below (T.setTop (mkF m 464 #[.val (.int i0), .val (.int i1), .val (.int i2), .val (.int i3), .val (.int i4), .val (.int i5), .val (.int i6), .val (.int i7), .val (.ref (n0 + o8)), .val (.ref (n0 + o9)), .val (.int i10), .val (.int i11), .val (.int i12), .val (.int i13), .val (.ref (n0 + o14)), .val (.int i15)] [(.int s0)])) (Fini own_D Z n0 s room_1 (some (.int q.1)) q.2) := by
  unfold f0_464 at hf
  refine i_istore (pc' := 466) (Ls' := #[.val (.int i0), .val (.int i1), .val (.int i2), .val (.int i3), .val (.int i4), .val (.int i5), .val (.int i6), .val (.int i7), .val (.ref (n0 + o8)), .val (.ref (n0 + o9)), .val (.int i10), .val (.int i11), .val (.int i12), .val (.int i13), .val (.ref (n0 + o14)), .val (.int s0)]) K X at_464 rfl rfl ?_
  refine i_aload (pc' := 468) K X at_466 rfl rfl rfl ?_
  refine i_aload (pc' := 470) K X at_468 rfl rfl rfl ?_
  refine i_iconst (pc' := 471) (v := (0 : Int32)) K X at_470 rfl rfl ?_
  refine i_bipush (pc' := 473) (v := (40 : Int32)) K X at_471 rfl rfl ?_
  obtain ⟨y2, g2, hf⟩ := bs hf
  obtain ⟨q1, g1, hf⟩ := bs hf
  refine callv (pc' := 476) (kc := cells) (ks := slots) (S' := [(.int q1.1)]) (st := []) K X (i1 := 27) rfl (i2 := 28) rfl (i5 := 30) (t := 10) rfl (i6 := 29) rfl (i3 := 4) rfl (i4 := 31) rfl (by decide) (by decide) g2 (rm4 (l := l) (n0 := n0) (K.2.2.2.2.2.2.2.2) A o14 o9 (0 : Int32) (40 : Int32) g1) pd_4 rfl at_473 rfl rfl (by decide) (w := 0) (Nat.le_of_eq rfl) (by decide) (show cells + 0 ≤ 16 by omega) (show slots + 0 ≤ 256 by omega) rfl rfl rfl rfl (fun T1 X1 => ?_)
  refine i_pop (pc' := 477) K X1 at_476 rfl rfl ?_
  refine i_iload (pc' := 479) K X1 at_477 rfl rfl ?_
  by_cases hc479 : s0 = (0 : Int32)
  · rw [if_pos hc479] at hf
    refine i_ifYes (pc' := 506) K X1 at_479 (teq hc479).1 (by decide) (by decide) ?_
    exact w0_506 K sep X1 i0 i1 i2 i3 i4 i5 i6 i7 o8 o9 i10 i11 i12 i13 o14 s0 (show cells + 0 ≤ 16 by omega) (show slots + 0 ≤ 256 by omega) hf
  · rw [if_neg hc479] at hf
    refine i_ifNo (pc' := 482) K X1 at_479 rfl (feq hc479).1 ?_
    refine i_aload (pc' := 484) K X1 at_482 rfl rfl rfl ?_
    obtain ⟨y4, g4, hf⟩ := bs hf
    obtain ⟨q3, g3, hf⟩ := bs hf
    refine callv (pc' := 487) (kc := cells) (ks := slots) (S' := [(.int q3.1)]) (st := []) K X1 (i1 := 11) rfl (i2 := 12) rfl (i5 := 14) (t := 10) rfl (i6 := 13) rfl (i3 := 4) rfl (i4 := 15) rfl (by decide) (by decide) g4 (rm2 (l := l) (n0 := n0) (K.2.2.2.2.2.2.2.2) q1.2 o14 g3) pd_2 rfl at_484 rfl rfl (by decide) (w := 0) (Nat.le_of_eq rfl) (by decide) (show cells + 0 ≤ 16 by omega) (show slots + 0 ≤ 256 by omega) rfl rfl rfl rfl (fun T3 X3 => ?_)
    refine i_iload (pc' := 489) K X3 at_487 rfl rfl ?_
    refine i_iload (pc' := 491) K X3 at_489 rfl rfl ?_
    by_cases hc491 : i12 < i4
    · rw [if_pos hc491] at hf
      refine i_icmpNo (pc' := 494) K X3 at_491 rfl (tlt hc491).2.1 ?_
      refine i_iconst (pc' := 495) (v := (1 : Int32)) K X3 at_494 rfl rfl ?_
      refine i_goto (pc' := 499) K X3 at_495 (by decide) (by decide) ?_
      exact w0_499 K sep X3 i0 i1 i2 i3 i4 i5 i6 i7 o8 o9 i10 i11 i12 i13 o14 s0 (1 : Int32) q3.1 (show cells + 0 ≤ 16 by omega) (show slots + 0 ≤ 256 by omega) hf
    · rw [if_neg hc491] at hf
      refine i_icmpYes (pc' := 498) K X3 at_491 (flt hc491).2.1 (by decide) (by decide) ?_
      refine i_iconst (pc' := 499) (v := (0 : Int32)) K X3 at_498 rfl rfl ?_
      exact w0_499 K sep X3 i0 i1 i2 i3 i4 i5 i6 i7 o8 o9 i10 i11 i12 i13 o14 s0 (0 : Int32) q3.1 (show cells + 0 ≤ 16 by omega) (show slots + 0 ≤ 256 by omega) hf
def f0_463 (A : AH) (i4 : Int32) (i5 : Int32) (o8 : Nat) (o9 : Nat) (i12 : Int32) (i13 : Int32) (o14 : Nat) : Option (Int32 × AH) :=
  f0_464 A i4 i5 o8 o9 i12 i13 o14 (0 : Int32)
set_option maxRecDepth 65536 in
set_option maxHeartbeats 4000000 in
theorem w0_463 (K : Cx p l e room_1 s m meth c Z a0 tables_1 "com/example/sealwire/sealwire/dtls/DatagramRecordsHasNextPinLaw" "law" code maxLocals ret) (sep : ∀ t, Sep Z (own_D t).2) (X : On p l e room_1 s m args below meth c own_D Z n0 T A cells slots) (i0 : Int32) (i1 : Int32) (i2 : Int32) (i3 : Int32) (i4 : Int32) (i5 : Int32) (i6 : Int32) (i7 : Int32) (o8 : Nat) (o9 : Nat) (i10 : Int32) (i11 : Int32) (i12 : Int32) (i13 : Int32) (o14 : Nat) (i15 : Int32) (hc : cells + 0 ≤ 16) (hs : slots + 0 ≤ 256) {q : Int32 × AH} (hf : f0_463 A i4 i5 o8 o9 i12 i13 o14 = some q) :
    Go p e below (T.setTop (mkF m 463 #[.val (.int i0), .val (.int i1), .val (.int i2), .val (.int i3), .val (.int i4), .val (.int i5), .val (.int i6), .val (.int i7), .val (.ref (n0 + o8)), .val (.ref (n0 + o9)), .val (.int i10), .val (.int i11), .val (.int i12), .val (.int i13), .val (.ref (n0 + o14)), .val (.int i15)] [])) (Fini own_D Z n0 s room_1 (some (.int q.1)) q.2) := by
  unfold f0_463 at hf
  refine i_iconst (pc' := 464) (v := (0 : Int32)) K X at_463 rfl rfl ?_
  exact w0_464 K sep X i0 i1 i2 i3 i4 i5 i6 i7 o8 o9 i10 i11 i12 i13 o14 i15 (0 : Int32) (show cells + 0 ≤ 16 by omega) (show slots + 0 ≤ 256 by omega) hf
def f0_456 (A : AH) (i4 : Int32) (i5 : Int32) (o8 : Nat) (o9 : Nat) (i12 : Int32) (i13 : Int32) (o14 : Nat) (s0 : Int32) (s1 : Int32) : Option (Int32 × AH) :=
  if s1 = s0 then (f0_464 A i4 i5 o8 o9 i12 i13 o14 (1 : Int32))
  else (f0_463 A i4 i5 o8 o9 i12 i13 o14)
set_option maxRecDepth 65536 in
set_option maxHeartbeats 4000000 in
theorem w0_456 (K : Cx p l e room_1 s m meth c Z a0 tables_1 "com/example/sealwire/sealwire/dtls/DatagramRecordsHasNextPinLaw" "law" code maxLocals ret) (sep : ∀ t, Sep Z (own_D t).2) (X : On p l e room_1 s m args below meth c own_D Z n0 T A cells slots) (i0 : Int32) (i1 : Int32) (i2 : Int32) (i3 : Int32) (i4 : Int32) (i5 : Int32) (i6 : Int32) (i7 : Int32) (o8 : Nat) (o9 : Nat) (i10 : Int32) (i11 : Int32) (i12 : Int32) (i13 : Int32) (o14 : Nat) (i15 : Int32) (s0 : Int32) (s1 : Int32) (hc : cells + 0 ≤ 16) (hs : slots + 0 ≤ 256) {q : Int32 × AH} (hf : f0_456 A i4 i5 o8 o9 i12 i13 o14 s0 s1 = some q) :
    Go p e below (T.setTop (mkF m 456 #[.val (.int i0), .val (.int i1), .val (.int i2), .val (.int i3), .val (.int i4), .val (.int i5), .val (.int i6), .val (.int i7), .val (.ref (n0 + o8)), .val (.ref (n0 + o9)), .val (.int i10), .val (.int i11), .val (.int i12), .val (.int i13), .val (.ref (n0 + o14)), .val (.int i15)] [(.int s0), (.int s1)])) (Fini own_D Z n0 s room_1 (some (.int q.1)) q.2) := by
  unfold f0_456 at hf
  by_cases hc456 : s1 = s0
  · rw [if_pos hc456] at hf
    refine i_icmpNo (pc' := 459) K X at_456 rfl (teq hc456).2 ?_
    refine i_iconst (pc' := 460) (v := (1 : Int32)) K X at_459 rfl rfl ?_
    refine i_goto (pc' := 464) K X at_460 (by decide) (by decide) ?_
    exact w0_464 K sep X i0 i1 i2 i3 i4 i5 i6 i7 o8 o9 i10 i11 i12 i13 o14 i15 (1 : Int32) (show cells + 0 ≤ 16 by omega) (show slots + 0 ≤ 256 by omega) hf
  · rw [if_neg hc456] at hf
    refine i_icmpYes (pc' := 463) K X at_456 (feq hc456).2 (by decide) (by decide) ?_
    exact w0_463 K sep X i0 i1 i2 i3 i4 i5 i6 i7 o8 o9 i10 i11 i12 i13 o14 i15 (show cells + 0 ≤ 16 by omega) (show slots + 0 ≤ 256 by omega) hf
def f0_425 (A : AH) (i4 : Int32) (i5 : Int32) (o8 : Nat) (o9 : Nat) (i12 : Int32) (i13 : Int32) (o14 : Nat) (s0 : Int32) : Option (Int32 × AH) :=
  (h_isA A 10 o14).bind fun y2 =>
  (f3_0 A o14 o8 i4).bind fun A1 =>
  if s0 = (0 : Int32) then (f0_463 A1 i4 i5 o8 o9 i12 i13 o14)
  else ((h_isA A1 10 o14).bind fun y4 =>
  (f2_0 A1 o14).bind fun q3 =>
  if (0 : Int32) < i4 then (f0_456 q3.2 i4 i5 o8 o9 i12 i13 o14 (1 : Int32) q3.1)
  else (f0_456 q3.2 i4 i5 o8 o9 i12 i13 o14 (0 : Int32) q3.1))
set_option maxRecDepth 65536 in
set_option maxHeartbeats 4000000 in
theorem w0_425 (K : Cx p l e room_1 s m meth c Z a0 tables_1 "com/example/sealwire/sealwire/dtls/DatagramRecordsHasNextPinLaw" "law" code maxLocals ret) (sep : ∀ t, Sep Z (own_D t).2) (X : On p l e room_1 s m args below meth c own_D Z n0 T A cells slots) (i0 : Int32) (i1 : Int32) (i2 : Int32) (i3 : Int32) (i4 : Int32) (i5 : Int32) (i6 : Int32) (i7 : Int32) (o8 : Nat) (o9 : Nat) (i10 : Int32) (i11 : Int32) (i12 : Int32) (i13 : Int32) (o14 : Nat) (s0 : Int32) (hc : cells + 0 ≤ 16) (hs : slots + 0 ≤ 256) {q : Int32 × AH} (hf : f0_425 A i4 i5 o8 o9 i12 i13 o14 s0 = some q) :
    Go p e below (T.setTop (mkF m 425 #[.val (.int i0), .val (.int i1), .val (.int i2), .val (.int i3), .val (.int i4), .val (.int i5), .val (.int i6), .val (.int i7), .val (.ref (n0 + o8)), .val (.ref (n0 + o9)), .val (.int i10), .val (.int i11), .val (.int i12), .val (.int i13), .val (.ref (n0 + o14)), .unset] [(.int s0)])) (Fini own_D Z n0 s room_1 (some (.int q.1)) q.2) := by
  unfold f0_425 at hf
  refine i_istore (pc' := 427) (Ls' := #[.val (.int i0), .val (.int i1), .val (.int i2), .val (.int i3), .val (.int i4), .val (.int i5), .val (.int i6), .val (.int i7), .val (.ref (n0 + o8)), .val (.ref (n0 + o9)), .val (.int i10), .val (.int i11), .val (.int i12), .val (.int i13), .val (.ref (n0 + o14)), .val (.int s0)]) K X at_425 rfl rfl ?_
  refine i_aload (pc' := 429) K X at_427 rfl rfl rfl ?_
  refine i_aload (pc' := 431) K X at_429 rfl rfl rfl ?_
  refine i_iload (pc' := 433) K X at_431 rfl rfl ?_
  obtain ⟨y2, g2, hf⟩ := bs hf
  obtain ⟨A1, g1, hf⟩ := bs hf
  refine callv (pc' := 436) (kc := cells) (ks := slots) (S' := []) (st := []) K X (i1 := 20) rfl (i2 := 21) rfl (i5 := 23) (t := 10) rfl (i6 := 22) rfl (i3 := 4) rfl (i4 := 24) rfl (by decide) (by decide) g2 (rm3 (l := l) (n0 := n0) (K.2.2.2.2.2.2.2.2) A o14 o8 i4 g1) pd_3 rfl at_433 rfl rfl (by decide) (w := 0) (Nat.le_of_eq rfl) (by decide) (show cells + 0 ≤ 16 by omega) (show slots + 0 ≤ 256 by omega) rfl rfl rfl rfl (fun T1 X1 => ?_)
  refine i_iload (pc' := 438) K X1 at_436 rfl rfl ?_
  by_cases hc438 : s0 = (0 : Int32)
  · rw [if_pos hc438] at hf
    refine i_ifYes (pc' := 463) K X1 at_438 (teq hc438).1 (by decide) (by decide) ?_
    exact w0_463 K sep X1 i0 i1 i2 i3 i4 i5 i6 i7 o8 o9 i10 i11 i12 i13 o14 s0 (show cells + 0 ≤ 16 by omega) (show slots + 0 ≤ 256 by omega) hf
  · rw [if_neg hc438] at hf
    refine i_ifNo (pc' := 441) K X1 at_438 rfl (feq hc438).1 ?_
    refine i_aload (pc' := 443) K X1 at_441 rfl rfl rfl ?_
    obtain ⟨y4, g4, hf⟩ := bs hf
    obtain ⟨q3, g3, hf⟩ := bs hf
    refine callv (pc' := 446) (kc := cells) (ks := slots) (S' := [(.int q3.1)]) (st := []) K X1 (i1 := 11) rfl (i2 := 12) rfl (i5 := 14) (t := 10) rfl (i6 := 13) rfl (i3 := 4) rfl (i4 := 15) rfl (by decide) (by decide) g4 (rm2 (l := l) (n0 := n0) (K.2.2.2.2.2.2.2.2) A1 o14 g3) pd_2 rfl at_443 rfl rfl (by decide) (w := 0) (Nat.le_of_eq rfl) (by decide) (show cells + 0 ≤ 16 by omega) (show slots + 0 ≤ 256 by omega) rfl rfl rfl rfl (fun T3 X3 => ?_)
    refine i_iload (pc' := 448) K X3 at_446 rfl rfl ?_
    by_cases hc448 : (0 : Int32) < i4
    · rw [if_pos hc448] at hf
      refine i_ifNo (pc' := 451) K X3 at_448 rfl (tlt hc448).2.2.2 ?_
      refine i_iconst (pc' := 452) (v := (1 : Int32)) K X3 at_451 rfl rfl ?_
      refine i_goto (pc' := 456) K X3 at_452 (by decide) (by decide) ?_
      exact w0_456 K sep X3 i0 i1 i2 i3 i4 i5 i6 i7 o8 o9 i10 i11 i12 i13 o14 s0 (1 : Int32) q3.1 (show cells + 0 ≤ 16 by omega) (show slots + 0 ≤ 256 by omega) hf
    · rw [if_neg hc448] at hf
      refine i_ifYes (pc' := 455) K X3 at_448 (flt hc448).2.2.2 (by decide) (by decide) ?_
      refine i_iconst (pc' := 456) (v := (0 : Int32)) K X3 at_455 rfl rfl ?_
      exact w0_456 K sep X3 i0 i1 i2 i3 i4 i5 i6 i7 o8 o9 i10 i11 i12 i13 o14 s0 (0 : Int32) q3.1 (show cells + 0 ≤ 16 by omega) (show slots + 0 ≤ 256 by omega) hf
def f0_403 (A : AH) (i4 : Int32) (i5 : Int32) (o8 : Nat) (o9 : Nat) (i12 : Int32) (i13 : Int32) : Option (Int32 × AH) :=
  (h_onew A 10 own_ds10).bind fun q1 =>
  (f1_0 q1.2 q1.1).bind fun A2 =>
  (h_isA A2 10 q1.1).bind fun y4 =>
  (f2_0 A2 q1.1).bind fun q3 =>
  if q3.1 = (0 : Int32) then (f0_425 q3.2 i4 i5 o8 o9 i12 i13 q1.1 (1 : Int32))
  else (f0_425 q3.2 i4 i5 o8 o9 i12 i13 q1.1 (0 : Int32))
set_option maxRecDepth 65536 in
set_option maxHeartbeats 4000000 in
theorem w0_403 (K : Cx p l e room_1 s m meth c Z a0 tables_1 "com/example/sealwire/sealwire/dtls/DatagramRecordsHasNextPinLaw" "law" code maxLocals ret) (sep : ∀ t, Sep Z (own_D t).2) (X : On p l e room_1 s m args below meth c own_D Z n0 T A cells slots) (i0 : Int32) (i1 : Int32) (i2 : Int32) (i3 : Int32) (i4 : Int32) (i5 : Int32) (i6 : Int32) (i7 : Int32) (o8 : Nat) (o9 : Nat) (i10 : Int32) (i11 : Int32) (i12 : Int32) (i13 : Int32) (x14 : Slot) (hx14 : One x14) (hc : cells + 1 ≤ 16) (hs : slots + 3 ≤ 256) {q : Int32 × AH} (hf : f0_403 A i4 i5 o8 o9 i12 i13 = some q) :
    Go p e below (T.setTop (mkF m 403 #[.val (.int i0), .val (.int i1), .val (.int i2), .val (.int i3), .val (.int i4), .val (.int i5), .val (.int i6), .val (.int i7), .val (.ref (n0 + o8)), .val (.ref (n0 + o9)), .val (.int i10), .val (.int i11), .val (.int i12), .val (.int i13), x14, .unset] [])) (Fini own_D Z n0 s room_1 (some (.int q.1)) q.2) := by
  unfold f0_403 at hf
  obtain ⟨q1, g1, hf⟩ := bs hf
  refine newo (pc' := 406) K X (i1 := 2) rfl (i2 := 3) rfl (i3 := 4) rfl at_403 (show cells + 1 ≤ 16 by omega) (show slots + 3 ≤ 256 by omega) (t := 10) (by decide) (own_dsL10 K) g1 rfl (fun T1 X1 => ?_)
  refine i_dup (pc' := 407) K X1 at_406 rfl rfl ?_
  obtain ⟨A2, g2, hf⟩ := bs hf
  refine calli (pc' := 410) (kc := cells + 1) (ks := slots + 3) (st := [(.ref (n0 + q1.1))]) K X1 (i1 := 5) rfl (i2 := 6) rfl (i3 := 4) rfl (i4 := 7) rfl rfl (by decide) (rm1 (l := l) (n0 := n0) (K.2.2.2.2.2.2.2.2) q1.2 q1.1 g2) pd_1 rfl at_407 rfl rfl (by decide) (w := 1) (Nat.le_of_eq rfl) (by decide) (show cells + 1 + 0 ≤ 16 by omega) (show slots + 3 + 0 ≤ 256 by omega) rfl rfl rfl (fun T2 X2 => ?_)
  refine i_astore (pc' := 412) (Ls' := #[.val (.int i0), .val (.int i1), .val (.int i2), .val (.int i3), .val (.int i4), .val (.int i5), .val (.int i6), .val (.int i7), .val (.ref (n0 + o8)), .val (.ref (n0 + o9)), .val (.int i10), .val (.int i11), .val (.int i12), .val (.int i13), .val (.ref (n0 + q1.1)), .unset]) K X2 at_410 rfl (stOne hx14 rfl rfl rfl) rfl ?_
  refine i_aload (pc' := 414) K X2 at_412 rfl rfl rfl ?_
  obtain ⟨y4, g4, hf⟩ := bs hf
  obtain ⟨q3, g3, hf⟩ := bs hf
  refine callv (pc' := 417) (kc := cells + 1) (ks := slots + 3) (S' := [(.int q3.1)]) (st := []) K X2 (i1 := 11) rfl (i2 := 12) rfl (i5 := 14) (t := 10) rfl (i6 := 13) rfl (i3 := 4) rfl (i4 := 15) rfl (by decide) (by decide) g4 (rm2 (l := l) (n0 := n0) (K.2.2.2.2.2.2.2.2) A2 q1.1 g3) pd_2 rfl at_414 rfl rfl (by decide) (w := 0) (Nat.le_of_eq rfl) (by decide) (show cells + 1 + 0 ≤ 16 by omega) (show slots + 3 + 0 ≤ 256 by omega) rfl rfl rfl rfl (fun T3 X3 => ?_)
  by_cases hc417 : q3.1 = (0 : Int32)
  · rw [if_pos hc417] at hf
    refine i_ifNo (pc' := 420) K X3 at_417 rfl (teq hc417).2 ?_
    refine i_iconst (pc' := 421) (v := (1 : Int32)) K X3 at_420 rfl rfl ?_
    refine i_goto (pc' := 425) K X3 at_421 (by decide) (by decide) ?_
    exact w0_425 K sep X3 i0 i1 i2 i3 i4 i5 i6 i7 o8 o9 i10 i11 i12 i13 q1.1 (1 : Int32) (show cells + 1 + 0 ≤ 16 by omega) (show slots + 3 + 0 ≤ 256 by omega) hf
  · rw [if_neg hc417] at hf
    refine i_ifYes (pc' := 424) K X3 at_417 (feq hc417).2 (by decide) (by decide) ?_
    refine i_iconst (pc' := 425) (v := (0 : Int32)) K X3 at_424 rfl rfl ?_
    exact w0_425 K sep X3 i0 i1 i2 i3 i4 i5 i6 i7 o8 o9 i10 i11 i12 i13 q1.1 (0 : Int32) (show cells + 1 + 0 ≤ 16 by omega) (show slots + 3 + 0 ≤ 256 by omega) hf
def f0_391 (A : AH) (i4 : Int32) (i5 : Int32) (o8 : Nat) (o9 : Nat) (i12 : Int32) (s0 : Int32) (s1 : Int32) : Option (Int32 × AH) :=
  f0_403 A i4 i5 o8 o9 i12 (f5_0 s1 s0)
set_option maxRecDepth 65536 in
set_option maxHeartbeats 4000000 in
theorem w0_391 (K : Cx p l e room_1 s m meth c Z a0 tables_1 "com/example/sealwire/sealwire/dtls/DatagramRecordsHasNextPinLaw" "law" code maxLocals ret) (sep : ∀ t, Sep Z (own_D t).2) (X : On p l e room_1 s m args below meth c own_D Z n0 T A cells slots) (i0 : Int32) (i1 : Int32) (i2 : Int32) (i3 : Int32) (i4 : Int32) (i5 : Int32) (i6 : Int32) (i7 : Int32) (o8 : Nat) (o9 : Nat) (i10 : Int32) (i11 : Int32) (i12 : Int32) (x13 : Slot) (hx13 : One x13) (i14 : Int32) (s0 : Int32) (s1 : Int32) (hc : cells + 1 ≤ 16) (hs : slots + 3 ≤ 256) {q : Int32 × AH} (hf : f0_391 A i4 i5 o8 o9 i12 s0 s1 = some q) :
    Go p e below (T.setTop (mkF m 391 #[.val (.int i0), .val (.int i1), .val (.int i2), .val (.int i3), .val (.int i4), .val (.int i5), .val (.int i6), .val (.int i7), .val (.ref (n0 + o8)), .val (.ref (n0 + o9)), .val (.int i10), .val (.int i11), .val (.int i12), x13, .val (.int i14), .unset] [(.int s0), (.int s1)])) (Fini own_D Z n0 s room_1 (some (.int q.1)) q.2) := by
  unfold f0_391 at hf
  refine calls (pc' := 394) (kc := cells) (ks := slots) (S' := [(.int (f5_0 s1 s0))]) (st := []) K X (i1 := 41) rfl (i2 := 33) rfl (i3 := 34) rfl (i4 := 35) rfl (by decide) (rm5 (l := l) (n0 := n0) (K.2.2.2.2.2.2.2.2) A s1 s0) pd_5 rfl at_391 rfl rfl (by decide) (w := 0) (Nat.le_of_eq rfl) (by decide) (show cells + 0 ≤ 16 by omega) (show slots + 0 ≤ 256 by omega) rfl rfl rfl rfl (fun T1 X1 => ?_)
  refine i_istore (pc' := 396) (Ls' := #[.val (.int i0), .val (.int i1), .val (.int i2), .val (.int i3), .val (.int i4), .val (.int i5), .val (.int i6), .val (.int i7), .val (.ref (n0 + o8)), .val (.ref (n0 + o9)), .val (.int i10), .val (.int i11), .val (.int i12), .val (.int (f5_0 s1 s0)), .val (.int i14), .unset]) K X1 at_394 rfl (stOne hx13 rfl rfl rfl) ?_
  refine i_goto (pc' := 403) K X1 at_396 (by decide) (by decide) ?_
  exact w0_403 K sep X1 i0 i1 i2 i3 i4 i5 i6 i7 o8 o9 i10 i11 i12 (f5_0 s1 s0) (.val (.int i14)) (One.val rfl) (show cells + 1 ≤ 16 by omega) (show slots + 3 ≤ 256 by omega) hf
def f0_366 (A : AH) (i4 : Int32) (i5 : Int32) (o8 : Nat) (o9 : Nat) (i10 : Int32) (i11 : Int32) (i12 : Int32) (s0 : Int32) : Option (Int32 × AH) :=
  f0_391 A i4 i5 o8 o9 i12 ((i12 + (13 : Int32)) + (s0 ||| (f6_0 (i12 + (12 : Int32)) i10 i11))) i4
set_option maxRecDepth 65536 in
set_option maxHeartbeats 4000000 in
theorem w0_366 (K : Cx p l e room_1 s m meth c Z a0 tables_1 "com/example/sealwire/sealwire/dtls/DatagramRecordsHasNextPinLaw" "law" code maxLocals ret) (sep : ∀ t, Sep Z (own_D t).2) (X : On p l e room_1 s m args below meth c own_D Z n0 T A cells slots) (i0 : Int32) (i1 : Int32) (i2 : Int32) (i3 : Int32) (i4 : Int32) (i5 : Int32) (i6 : Int32) (i7 : Int32) (o8 : Nat) (o9 : Nat) (i10 : Int32) (i11 : Int32) (i12 : Int32) (x13 : Slot) (hx13 : One x13) (s0 : Int32) (hc : cells + 1 ≤ 16) (hs : slots + 3 ≤ 256) {q : Int32 × AH} (hf : f0_366 A i4 i5 o8 o9 i10 i11 i12 s0 = some q) :
    Go p e below (T.setTop (mkF m 366 #[.val (.int i0), .val (.int i1), .val (.int i2), .val (.int i3), .val (.int i4), .val (.int i5), .val (.int i6), .val (.int i7), .val (.ref (n0 + o8)), .val (.ref (n0 + o9)), .val (.int i10), .val (.int i11), .val (.int i12), x13, .unset, .unset] [(.int s0)])) (Fini own_D Z n0 s room_1 (some (.int q.1)) q.2) := by
  unfold f0_366 at hf
  refine i_iload (pc' := 368) K X at_366 rfl rfl ?_
  refine i_bipush (pc' := 370) (v := (12 : Int32)) K X at_368 rfl rfl ?_
  refine i_iadd (pc' := 371) K X at_370 rfl ?_
  refine i_iload (pc' := 373) K X at_371 rfl rfl ?_
  refine i_iload (pc' := 375) K X at_373 rfl rfl ?_
  refine calls (pc' := 378) (kc := cells) (ks := slots) (S' := [(.int (f6_0 (i12 + (12 : Int32)) i10 i11)), (.int s0)]) (st := [(.int s0)]) K X (i1 := 42) rfl (i2 := 43) rfl (i3 := 44) rfl (i4 := 45) rfl (by decide) (rm6 (l := l) (n0 := n0) (K.2.2.2.2.2.2.2.2) A (i12 + (12 : Int32)) i10 i11) pd_6 rfl at_375 rfl rfl (by decide) (w := 1) (Nat.le_of_eq rfl) (by decide) (show cells + 0 ≤ 16 by omega) (show slots + 0 ≤ 256 by omega) rfl rfl rfl rfl (fun T1 X1 => ?_)
  refine i_ior (pc' := 379) K X1 at_378 rfl ?_
  refine i_istore (pc' := 381) (Ls' := #[.val (.int i0), .val (.int i1), .val (.int i2), .val (.int i3), .val (.int i4), .val (.int i5), .val (.int i6), .val (.int i7), .val (.ref (n0 + o8)), .val (.ref (n0 + o9)), .val (.int i10), .val (.int i11), .val (.int i12), x13, .val (.int (s0 ||| (f6_0 (i12 + (12 : Int32)) i10 i11))), .unset]) K X1 at_379 rfl rfl ?_
  refine i_iload (pc' := 383) K X1 at_381 rfl rfl ?_
  refine i_iload (pc' := 385) K X1 at_383 rfl rfl ?_
  refine i_bipush (pc' := 387) (v := (13 : Int32)) K X1 at_385 rfl rfl ?_
  refine i_iadd (pc' := 388) K X1 at_387 rfl ?_
  refine i_iload (pc' := 390) K X1 at_388 rfl rfl ?_
  refine i_iadd (pc' := 391) K X1 at_390 rfl ?_
  exact w0_391 K sep X1 i0 i1 i2 i3 i4 i5 i6 i7 o8 o9 i10 i11 i12 x13 hx13 (s0 ||| (f6_0 (i12 + (12 : Int32)) i10 i11)) ((i12 + (13 : Int32)) + (s0 ||| (f6_0 (i12 + (12 : Int32)) i10 i11))) i4 (show cells + 1 ≤ 16 by omega) (show slots + 3 ≤ 256 by omega) hf
def f0_341 (A : AH) (i4 : Int32) (i5 : Int32) (o8 : Nat) (o9 : Nat) (i10 : Int32) (i11 : Int32) (i12 : Int32) : Option (Int32 × AH) :=
  if (i4 - i12) < (13 : Int32) then (f0_403 A i4 i5 o8 o9 i12 i4)
  else (f0_366 A i4 i5 o8 o9 i10 i11 i12 ((f6_0 (i12 + (11 : Int32)) i10 i11) <<< ((8 : Int32) &&& 31)))
set_option maxRecDepth 65536 in
set_option maxHeartbeats 4000000 in
theorem w0_341 (K : Cx p l e room_1 s m meth c Z a0 tables_1 "com/example/sealwire/sealwire/dtls/DatagramRecordsHasNextPinLaw" "law" code maxLocals ret) (sep : ∀ t, Sep Z (own_D t).2) (X : On p l e room_1 s m args below meth c own_D Z n0 T A cells slots) (i0 : Int32) (i1 : Int32) (i2 : Int32) (i3 : Int32) (i4 : Int32) (i5 : Int32) (i6 : Int32) (i7 : Int32) (o8 : Nat) (o9 : Nat) (i10 : Int32) (i11 : Int32) (i12 : Int32) (x13 : Slot) (hx13 : One x13) (hc : cells + 1 ≤ 16) (hs : slots + 3 ≤ 256) {q : Int32 × AH} (hf : f0_341 A i4 i5 o8 o9 i10 i11 i12 = some q) :
    Go p e below (T.setTop (mkF m 341 #[.val (.int i0), .val (.int i1), .val (.int i2), .val (.int i3), .val (.int i4), .val (.int i5), .val (.int i6), .val (.int i7), .val (.ref (n0 + o8)), .val (.ref (n0 + o9)), .val (.int i10), .val (.int i11), .val (.int i12), x13, .unset, .unset] [])) (Fini own_D Z n0 s room_1 (some (.int q.1)) q.2) := by
  unfold f0_341 at hf
  refine i_iload (pc' := 343) K X at_341 rfl rfl ?_
  refine i_iload (pc' := 345) K X at_343 rfl rfl ?_
  refine i_isub (pc' := 346) K X at_345 rfl ?_
  refine i_bipush (pc' := 348) (v := (13 : Int32)) K X at_346 rfl rfl ?_
  by_cases hc348 : (i4 - i12) < (13 : Int32)
  · rw [if_pos hc348] at hf
    refine i_icmpYes (pc' := 399) K X at_348 (tlt hc348).1 (by decide) (by decide) ?_
    refine i_iload (pc' := 401) K X at_399 rfl rfl ?_
    refine i_istore (pc' := 403) (Ls' := #[.val (.int i0), .val (.int i1), .val (.int i2), .val (.int i3), .val (.int i4), .val (.int i5), .val (.int i6), .val (.int i7), .val (.ref (n0 + o8)), .val (.ref (n0 + o9)), .val (.int i10), .val (.int i11), .val (.int i12), .val (.int i4), .unset, .unset]) K X at_401 rfl (stOne hx13 rfl rfl rfl) ?_
    exact w0_403 K sep X i0 i1 i2 i3 i4 i5 i6 i7 o8 o9 i10 i11 i12 i4 .unset One.u (show cells + 1 ≤ 16 by omega) (show slots + 3 ≤ 256 by omega) hf
  · rw [if_neg hc348] at hf
    refine i_icmpNo (pc' := 351) K X at_348 rfl (flt hc348).1 ?_
    refine i_iload (pc' := 353) K X at_351 rfl rfl ?_
    refine i_bipush (pc' := 355) (v := (11 : Int32)) K X at_353 rfl rfl ?_
    refine i_iadd (pc' := 356) K X at_355 rfl ?_
    refine i_iload (pc' := 358) K X at_356 rfl rfl ?_
    refine i_iload (pc' := 360) K X at_358 rfl rfl ?_
    refine calls (pc' := 363) (kc := cells) (ks := slots) (S' := [(.int (f6_0 (i12 + (11 : Int32)) i10 i11))]) (st := []) K X (i1 := 42) rfl (i2 := 43) rfl (i3 := 44) rfl (i4 := 45) rfl (by decide) (rm6 (l := l) (n0 := n0) (K.2.2.2.2.2.2.2.2) A (i12 + (11 : Int32)) i10 i11) pd_6 rfl at_360 rfl rfl (by decide) (w := 0) (Nat.le_of_eq rfl) (by decide) (show cells + 0 ≤ 16 by omega) (show slots + 0 ≤ 256 by omega) rfl rfl rfl rfl (fun T1 X1 => ?_)
    refine i_bipush (pc' := 365) (v := (8 : Int32)) K X1 at_363 rfl rfl ?_
    refine i_ishl (pc' := 366) K X1 at_365 rfl ?_
    exact w0_366 K sep X1 i0 i1 i2 i3 i4 i5 i6 i7 o8 o9 i10 i11 i12 x13 hx13 ((f6_0 (i12 + (11 : Int32)) i10 i11) <<< ((8 : Int32) &&& 31)) (show cells + 1 ≤ 16 by omega) (show slots + 3 ≤ 256 by omega) hf
def f0_329 (A : AH) (i4 : Int32) (i5 : Int32) (o8 : Nat) (o9 : Nat) (i10 : Int32) (i11 : Int32) (s0 : Int32) (s1 : Int32) : Option (Int32 × AH) :=
  f0_341 A i4 i5 o8 o9 i10 i11 (f5_0 s1 s0)
set_option maxRecDepth 65536 in
set_option maxHeartbeats 4000000 in
theorem w0_329 (K : Cx p l e room_1 s m meth c Z a0 tables_1 "com/example/sealwire/sealwire/dtls/DatagramRecordsHasNextPinLaw" "law" code maxLocals ret) (sep : ∀ t, Sep Z (own_D t).2) (X : On p l e room_1 s m args below meth c own_D Z n0 T A cells slots) (i0 : Int32) (i1 : Int32) (i2 : Int32) (i3 : Int32) (i4 : Int32) (i5 : Int32) (i6 : Int32) (i7 : Int32) (o8 : Nat) (o9 : Nat) (i10 : Int32) (i11 : Int32) (i13 : Int32) (s0 : Int32) (s1 : Int32) (hc : cells + 1 ≤ 16) (hs : slots + 3 ≤ 256) {q : Int32 × AH} (hf : f0_329 A i4 i5 o8 o9 i10 i11 s0 s1 = some q) :
    Go p e below (T.setTop (mkF m 329 #[.val (.int i0), .val (.int i1), .val (.int i2), .val (.int i3), .val (.int i4), .val (.int i5), .val (.int i6), .val (.int i7), .val (.ref (n0 + o8)), .val (.ref (n0 + o9)), .val (.int i10), .val (.int i11), .unset, .val (.int i13), .unset, .unset] [(.int s0), (.int s1)])) (Fini own_D Z n0 s room_1 (some (.int q.1)) q.2) := by
  unfold f0_329 at hf
  refine calls (pc' := 332) (kc := cells) (ks := slots) (S' := [(.int (f5_0 s1 s0))]) (st := []) K X (i1 := 41) rfl (i2 := 33) rfl (i3 := 34) rfl (i4 := 35) rfl (by decide) (rm5 (l := l) (n0 := n0) (K.2.2.2.2.2.2.2.2) A s1 s0) pd_5 rfl at_329 rfl rfl (by decide) (w := 0) (Nat.le_of_eq rfl) (by decide) (show cells + 0 ≤ 16 by omega) (show slots + 0 ≤ 256 by omega) rfl rfl rfl rfl (fun T1 X1 => ?_)
  refine i_istore (pc' := 334) (Ls' := #[.val (.int i0), .val (.int i1), .val (.int i2), .val (.int i3), .val (.int i4), .val (.int i5), .val (.int i6), .val (.int i7), .val (.ref (n0 + o8)), .val (.ref (n0 + o9)), .val (.int i10), .val (.int i11), .val (.int (f5_0 s1 s0)), .val (.int i13), .unset, .unset]) K X1 at_332 rfl rfl ?_
  refine i_goto (pc' := 341) K X1 at_334 (by decide) (by decide) ?_
  exact w0_341 K sep X1 i0 i1 i2 i3 i4 i5 i6 i7 o8 o9 i10 i11 (f5_0 s1 s0) (.val (.int i13)) (One.val rfl) (show cells + 1 ≤ 16 by omega) (show slots + 3 ≤ 256 by omega) hf
def f0_300 (A : AH) (i1 : Int32) (i2 : Int32) (i4 : Int32) (i5 : Int32) (o8 : Nat) (o9 : Nat) (s0 : Int32) : Option (Int32 × AH) :=
  if i4 < (13 : Int32) then (f0_341 A i4 i5 o8 o9 s0 (i2 &&& (255 : Int32)) i4)
  else (f0_329 A i4 i5 o8 o9 s0 (i2 &&& (255 : Int32)) ((13 : Int32) + (i1 &&& (65535 : Int32))) i4)
set_option maxRecDepth 65536 in
set_option maxHeartbeats 4000000 in
theorem w0_300 (K : Cx p l e room_1 s m meth c Z a0 tables_1 "com/example/sealwire/sealwire/dtls/DatagramRecordsHasNextPinLaw" "law" code maxLocals ret) (sep : ∀ t, Sep Z (own_D t).2) (X : On p l e room_1 s m args below meth c own_D Z n0 T A cells slots) (i0 : Int32) (i1 : Int32) (i2 : Int32) (i3 : Int32) (i4 : Int32) (i5 : Int32) (i6 : Int32) (i7 : Int32) (o8 : Nat) (o9 : Nat) (s0 : Int32) (hc : cells + 1 ≤ 16) (hs : slots + 3 ≤ 256) {q : Int32 × AH} (hf : f0_300 A i1 i2 i4 i5 o8 o9 s0 = some q) :
    Go p e below (T.setTop (mkF m 300 #[.val (.int i0), .val (.int i1), .val (.int i2), .val (.int i3), .val (.int i4), .val (.int i5), .val (.int i6), .val (.int i7), .val (.ref (n0 + o8)), .val (.ref (n0 + o9)), .unset, .unset, .unset, .unset, .unset, .unset] [(.int s0)])) (Fini own_D Z n0 s room_1 (some (.int q.1)) q.2) := by
  unfold f0_300 at hf
  refine i_istore (pc' := 302) (Ls' := #[.val (.int i0), .val (.int i1), .val (.int i2), .val (.int i3), .val (.int i4), .val (.int i5), .val (.int i6), .val (.int i7), .val (.ref (n0 + o8)), .val (.ref (n0 + o9)), .val (.int s0), .unset, .unset, .unset, .unset, .unset]) K X at_300 rfl rfl ?_
  refine i_iloadN (pc' := 303) K X at_302 rfl rfl ?_
  refine i_sipush (pc' := 306) (v := (255 : Int32)) K X at_303 rfl rfl ?_
  refine i_iand (pc' := 307) K X at_306 rfl ?_
  refine i_istore (pc' := 309) (Ls' := #[.val (.int i0), .val (.int i1), .val (.int i2), .val (.int i3), .val (.int i4), .val (.int i5), .val (.int i6), .val (.int i7), .val (.ref (n0 + o8)), .val (.ref (n0 + o9)), .val (.int s0), .val (.int (i2 &&& (255 : Int32))), .unset, .unset, .unset, .unset]) K X at_307 rfl rfl ?_
  refine i_iload (pc' := 311) K X at_309 rfl rfl ?_
  refine i_bipush (pc' := 313) (v := (13 : Int32)) K X at_311 rfl rfl ?_
  by_cases hc313 : i4 < (13 : Int32)
  · rw [if_pos hc313] at hf
    refine i_icmpYes (pc' := 337) K X at_313 (tlt hc313).1 (by decide) (by decide) ?_
    refine i_iload (pc' := 339) K X at_337 rfl rfl ?_
    refine i_istore (pc' := 341) (Ls' := #[.val (.int i0), .val (.int i1), .val (.int i2), .val (.int i3), .val (.int i4), .val (.int i5), .val (.int i6), .val (.int i7), .val (.ref (n0 + o8)), .val (.ref (n0 + o9)), .val (.int s0), .val (.int (i2 &&& (255 : Int32))), .val (.int i4), .unset, .unset, .unset]) K X at_339 rfl rfl ?_
    exact w0_341 K sep X i0 i1 i2 i3 i4 i5 i6 i7 o8 o9 s0 (i2 &&& (255 : Int32)) i4 .unset One.u (show cells + 1 ≤ 16 by omega) (show slots + 3 ≤ 256 by omega) hf
  · rw [if_neg hc313] at hf
    refine i_icmpNo (pc' := 316) K X at_313 rfl (flt hc313).1 ?_
    refine i_iloadN (pc' := 317) K X at_316 rfl rfl ?_
    refine ldcI (pc' := 319) (v := (65535 : Int32)) K X (i := 40) rfl at_317 rfl ?_
    refine i_iand (pc' := 320) K X at_319 rfl ?_
    refine i_istore (pc' := 322) (Ls' := #[.val (.int i0), .val (.int i1), .val (.int i2), .val (.int i3), .val (.int i4), .val (.int i5), .val (.int i6), .val (.int i7), .val (.ref (n0 + o8)), .val (.ref (n0 + o9)), .val (.int s0), .val (.int (i2 &&& (255 : Int32))), .unset, .val (.int (i1 &&& (65535 : Int32))), .unset, .unset]) K X at_320 rfl rfl ?_
    refine i_iload (pc' := 324) K X at_322 rfl rfl ?_
    refine i_bipush (pc' := 326) (v := (13 : Int32)) K X at_324 rfl rfl ?_
    refine i_iload (pc' := 328) K X at_326 rfl rfl ?_
    refine i_iadd (pc' := 329) K X at_328 rfl ?_
    exact w0_329 K sep X i0 i1 i2 i3 i4 i5 i6 i7 o8 o9 s0 (i2 &&& (255 : Int32)) (i1 &&& (65535 : Int32)) ((13 : Int32) + (i1 &&& (65535 : Int32))) i4 (show cells + 1 ≤ 16 by omega) (show slots + 3 ≤ 256 by omega) hf
def f0_283 (A : AH) (i1 : Int32) (i2 : Int32) (i4 : Int32) (i5 : Int32) (o8 : Nat) (s0 : Int32) (r1 : Nat) : Option (Int32 × AH) :=
  (h_aset A 2 r1 s0 (.int (nar .byte ((i1).toInt8.toInt32)))).bind fun A1 =>
  (h_anew A1 2 40 (40 : Int32) (.int 0)).bind fun q2 =>
  f0_300 q2.2 i1 i2 i4 i5 o8 q2.1 ((i2 >>> ((8 : Int32) &&& 31)) &&& (255 : Int32))
set_option maxRecDepth 65536 in
set_option maxHeartbeats 4000000 in
theorem w0_283 (K : Cx p l e room_1 s m meth c Z a0 tables_1 "com/example/sealwire/sealwire/dtls/DatagramRecordsHasNextPinLaw" "law" code maxLocals ret) (sep : ∀ t, Sep Z (own_D t).2) (X : On p l e room_1 s m args below meth c own_D Z n0 T A cells slots) (i0 : Int32) (i1 : Int32) (i2 : Int32) (i3 : Int32) (i4 : Int32) (i5 : Int32) (i6 : Int32) (i7 : Int32) (o8 : Nat) (s0 : Int32) (r1 : Nat) (hc : cells + 2 ≤ 16) (hs : slots + 43 ≤ 256) {q : Int32 × AH} (hf : f0_283 A i1 i2 i4 i5 o8 s0 r1 = some q) :
    Go p e below (T.setTop (mkF m 283 #[.val (.int i0), .val (.int i1), .val (.int i2), .val (.int i3), .val (.int i4), .val (.int i5), .val (.int i6), .val (.int i7), .val (.ref (n0 + o8)), .unset, .unset, .unset, .unset, .unset, .unset, .unset] [(.int s0), (.ref (n0 + r1))])) (Fini own_D Z n0 s room_1 (some (.int q.1)) q.2) := by
  unfold f0_283 at hf
  refine i_iloadN (pc' := 284) K X at_283 rfl rfl ?_
  refine i_i2b (pc' := 285) K X at_284 rfl ?_
  obtain ⟨A1, g1, hf⟩ := bs hf
  refine ast2 (pc' := 286) K X g1 at_285 rfl (fun T1 X1 => ?_)
  refine i_bipush (pc' := 288) (v := (40 : Int32)) K X1 at_286 rfl rfl ?_
  obtain ⟨q2, g2, hf⟩ := bs hf
  refine newa (pc' := 290) K X1 (i1 := 1) (at' := .byte) rfl at_288 (t := 2) (cap := 40) (by decide) (show cells + 1 ≤ 16 by omega) (show slots + 40 ≤ 256 by omega) (by decide) rfl rfl g2 rfl (fun T2 X2 => ?_)
  refine i_astore (pc' := 292) (Ls' := #[.val (.int i0), .val (.int i1), .val (.int i2), .val (.int i3), .val (.int i4), .val (.int i5), .val (.int i6), .val (.int i7), .val (.ref (n0 + o8)), .val (.ref (n0 + q2.1)), .unset, .unset, .unset, .unset, .unset, .unset]) K X2 at_290 rfl rfl rfl ?_
  refine i_iloadN (pc' := 293) K X2 at_292 rfl rfl ?_
  refine i_bipush (pc' := 295) (v := (8 : Int32)) K X2 at_293 rfl rfl ?_
  refine i_ishr (pc' := 296) K X2 at_295 rfl ?_
  refine i_sipush (pc' := 299) (v := (255 : Int32)) K X2 at_296 rfl rfl ?_
  refine i_iand (pc' := 300) K X2 at_299 rfl ?_
  exact w0_300 K sep X2 i0 i1 i2 i3 i4 i5 i6 i7 o8 q2.1 ((i2 >>> ((8 : Int32) &&& 31)) &&& (255 : Int32)) (show cells + 1 + 1 ≤ 16 by omega) (show slots + 40 + 3 ≤ 256 by omega) hf
def f0_258 (A : AH) (i1 : Int32) (i2 : Int32) (i4 : Int32) (i5 : Int32) (i6 : Int32) (i7 : Int32) (s0 : Int32) (r1 : Nat) (r2 : Nat) : Option (Int32 × AH) :=
  (h_aset A 2 r1 s0 (.int (nar .byte i6))).bind fun A1 =>
  (h_aset A1 2 r2 (39 : Int32) (.int (nar .byte i7))).bind fun A2 =>
  (h_aset A2 2 r2 (11 : Int32) (.int (nar .byte (((i1 >>> ((8 : Int32) &&& 31))).toInt8.toInt32)))).bind fun A3 =>
  f0_283 A3 i1 i2 i4 i5 r2 (12 : Int32) r2
set_option maxRecDepth 65536 in
set_option maxHeartbeats 4000000 in
theorem w0_258 (K : Cx p l e room_1 s m meth c Z a0 tables_1 "com/example/sealwire/sealwire/dtls/DatagramRecordsHasNextPinLaw" "law" code maxLocals ret) (sep : ∀ t, Sep Z (own_D t).2) (X : On p l e room_1 s m args below meth c own_D Z n0 T A cells slots) (i0 : Int32) (i1 : Int32) (i2 : Int32) (i3 : Int32) (i4 : Int32) (i5 : Int32) (i6 : Int32) (i7 : Int32) (s0 : Int32) (r1 : Nat) (r2 : Nat) (hc : cells + 2 ≤ 16) (hs : slots + 43 ≤ 256) {q : Int32 × AH} (hf : f0_258 A i1 i2 i4 i5 i6 i7 s0 r1 r2 = some q) :
    Go p e below (T.setTop (mkF m 258 #[.val (.int i0), .val (.int i1), .val (.int i2), .val (.int i3), .val (.int i4), .val (.int i5), .val (.int i6), .val (.int i7), .unset, .unset, .unset, .unset, .unset, .unset, .unset, .unset] [(.int s0), (.ref (n0 + r1)), (.ref (n0 + r2))])) (Fini own_D Z n0 s room_1 (some (.int q.1)) q.2) := by
  unfold f0_258 at hf
  refine i_iload (pc' := 260) K X at_258 rfl rfl ?_
  obtain ⟨A1, g1, hf⟩ := bs hf
  refine ast2 (pc' := 261) K X g1 at_260 rfl (fun T1 X1 => ?_)
  refine i_dup (pc' := 262) K X1 at_261 rfl rfl ?_
  refine i_bipush (pc' := 264) (v := (39 : Int32)) K X1 at_262 rfl rfl ?_
  refine i_iload (pc' := 266) K X1 at_264 rfl rfl ?_
  obtain ⟨A2, g2, hf⟩ := bs hf
  refine ast2 (pc' := 267) K X1 g2 at_266 rfl (fun T2 X2 => ?_)
  refine i_astore (pc' := 269) (Ls' := #[.val (.int i0), .val (.int i1), .val (.int i2), .val (.int i3), .val (.int i4), .val (.int i5), .val (.int i6), .val (.int i7), .val (.ref (n0 + r2)), .unset, .unset, .unset, .unset, .unset, .unset, .unset]) K X2 at_267 rfl rfl rfl ?_
  refine i_aload (pc' := 271) K X2 at_269 rfl rfl rfl ?_
  refine i_bipush (pc' := 273) (v := (11 : Int32)) K X2 at_271 rfl rfl ?_
  refine i_iloadN (pc' := 274) K X2 at_273 rfl rfl ?_
  refine i_bipush (pc' := 276) (v := (8 : Int32)) K X2 at_274 rfl rfl ?_
  refine i_ishr (pc' := 277) K X2 at_276 rfl ?_
  refine i_i2b (pc' := 278) K X2 at_277 rfl ?_
  obtain ⟨A3, g3, hf⟩ := bs hf
  refine ast2 (pc' := 279) K X2 g3 at_278 rfl (fun T3 X3 => ?_)
  refine i_aload (pc' := 281) K X3 at_279 rfl rfl rfl ?_
  refine i_bipush (pc' := 283) (v := (12 : Int32)) K X3 at_281 rfl rfl ?_
  exact w0_283 K sep X3 i0 i1 i2 i3 i4 i5 i6 i7 r2 (12 : Int32) r2 (show cells + 2 ≤ 16 by omega) (show slots + 43 ≤ 256 by omega) hf
def f0_234 (A : AH) (i1 : Int32) (i2 : Int32) (i4 : Int32) (i5 : Int32) (i6 : Int32) (i7 : Int32) (s0 : Int32) (r1 : Nat) (r2 : Nat) : Option (Int32 × AH) :=
  (h_aset A 2 r1 s0 (.int (nar .byte i6))).bind fun A1 =>
  (h_aset A1 2 r2 (35 : Int32) (.int (nar .byte i7))).bind fun A2 =>
  (h_aset A2 2 r2 (36 : Int32) (.int (nar .byte i6))).bind fun A3 =>
  (h_aset A3 2 r2 (37 : Int32) (.int (nar .byte i7))).bind fun A4 =>
  f0_258 A4 i1 i2 i4 i5 i6 i7 (38 : Int32) r2 r2
set_option maxRecDepth 65536 in
set_option maxHeartbeats 4000000 in
theorem w0_234 (K : Cx p l e room_1 s m meth c Z a0 tables_1 "com/example/sealwire/sealwire/dtls/DatagramRecordsHasNextPinLaw" "law" code maxLocals ret) (sep : ∀ t, Sep Z (own_D t).2) (X : On p l e room_1 s m args below meth c own_D Z n0 T A cells slots) (i0 : Int32) (i1 : Int32) (i2 : Int32) (i3 : Int32) (i4 : Int32) (i5 : Int32) (i6 : Int32) (i7 : Int32) (s0 : Int32) (r1 : Nat) (r2 : Nat) (hc : cells + 2 ≤ 16) (hs : slots + 43 ≤ 256) {q : Int32 × AH} (hf : f0_234 A i1 i2 i4 i5 i6 i7 s0 r1 r2 = some q) :
    Go p e below (T.setTop (mkF m 234 #[.val (.int i0), .val (.int i1), .val (.int i2), .val (.int i3), .val (.int i4), .val (.int i5), .val (.int i6), .val (.int i7), .unset, .unset, .unset, .unset, .unset, .unset, .unset, .unset] [(.int s0), (.ref (n0 + r1)), (.ref (n0 + r2))])) (Fini own_D Z n0 s room_1 (some (.int q.1)) q.2) := by
  unfold f0_234 at hf
  refine i_iload (pc' := 236) K X at_234 rfl rfl ?_
  obtain ⟨A1, g1, hf⟩ := bs hf
  refine ast2 (pc' := 237) K X g1 at_236 rfl (fun T1 X1 => ?_)
  refine i_dup (pc' := 238) K X1 at_237 rfl rfl ?_
  refine i_bipush (pc' := 240) (v := (35 : Int32)) K X1 at_238 rfl rfl ?_
  refine i_iload (pc' := 242) K X1 at_240 rfl rfl ?_
  obtain ⟨A2, g2, hf⟩ := bs hf
  refine ast2 (pc' := 243) K X1 g2 at_242 rfl (fun T2 X2 => ?_)
  refine i_dup (pc' := 244) K X2 at_243 rfl rfl ?_
  refine i_bipush (pc' := 246) (v := (36 : Int32)) K X2 at_244 rfl rfl ?_
  refine i_iload (pc' := 248) K X2 at_246 rfl rfl ?_
  obtain ⟨A3, g3, hf⟩ := bs hf
  refine ast2 (pc' := 249) K X2 g3 at_248 rfl (fun T3 X3 => ?_)
  refine i_dup (pc' := 250) K X3 at_249 rfl rfl ?_
  refine i_bipush (pc' := 252) (v := (37 : Int32)) K X3 at_250 rfl rfl ?_
  refine i_iload (pc' := 254) K X3 at_252 rfl rfl ?_
  obtain ⟨A4, g4, hf⟩ := bs hf
  refine ast2 (pc' := 255) K X3 g4 at_254 rfl (fun T4 X4 => ?_)
  refine i_dup (pc' := 256) K X4 at_255 rfl rfl ?_
  refine i_bipush (pc' := 258) (v := (38 : Int32)) K X4 at_256 rfl rfl ?_
  exact w0_258 K sep X4 i0 i1 i2 i3 i4 i5 i6 i7 (38 : Int32) r2 r2 (show cells + 2 ≤ 16 by omega) (show slots + 43 ≤ 256 by omega) hf
def f0_210 (A : AH) (i1 : Int32) (i2 : Int32) (i4 : Int32) (i5 : Int32) (i6 : Int32) (i7 : Int32) (s0 : Int32) (r1 : Nat) (r2 : Nat) : Option (Int32 × AH) :=
  (h_aset A 2 r1 s0 (.int (nar .byte i6))).bind fun A1 =>
  (h_aset A1 2 r2 (31 : Int32) (.int (nar .byte i7))).bind fun A2 =>
  (h_aset A2 2 r2 (32 : Int32) (.int (nar .byte i6))).bind fun A3 =>
  (h_aset A3 2 r2 (33 : Int32) (.int (nar .byte i7))).bind fun A4 =>
  f0_234 A4 i1 i2 i4 i5 i6 i7 (34 : Int32) r2 r2
set_option maxRecDepth 65536 in
set_option maxHeartbeats 4000000 in
theorem w0_210 (K : Cx p l e room_1 s m meth c Z a0 tables_1 "com/example/sealwire/sealwire/dtls/DatagramRecordsHasNextPinLaw" "law" code maxLocals ret) (sep : ∀ t, Sep Z (own_D t).2) (X : On p l e room_1 s m args below meth c own_D Z n0 T A cells slots) (i0 : Int32) (i1 : Int32) (i2 : Int32) (i3 : Int32) (i4 : Int32) (i5 : Int32) (i6 : Int32) (i7 : Int32) (s0 : Int32) (r1 : Nat) (r2 : Nat) (hc : cells + 2 ≤ 16) (hs : slots + 43 ≤ 256) {q : Int32 × AH} (hf : f0_210 A i1 i2 i4 i5 i6 i7 s0 r1 r2 = some q) :
    Go p e below (T.setTop (mkF m 210 #[.val (.int i0), .val (.int i1), .val (.int i2), .val (.int i3), .val (.int i4), .val (.int i5), .val (.int i6), .val (.int i7), .unset, .unset, .unset, .unset, .unset, .unset, .unset, .unset] [(.int s0), (.ref (n0 + r1)), (.ref (n0 + r2))])) (Fini own_D Z n0 s room_1 (some (.int q.1)) q.2) := by
  unfold f0_210 at hf
  refine i_iload (pc' := 212) K X at_210 rfl rfl ?_
  obtain ⟨A1, g1, hf⟩ := bs hf
  refine ast2 (pc' := 213) K X g1 at_212 rfl (fun T1 X1 => ?_)
  refine i_dup (pc' := 214) K X1 at_213 rfl rfl ?_
  refine i_bipush (pc' := 216) (v := (31 : Int32)) K X1 at_214 rfl rfl ?_
  refine i_iload (pc' := 218) K X1 at_216 rfl rfl ?_
  obtain ⟨A2, g2, hf⟩ := bs hf
  refine ast2 (pc' := 219) K X1 g2 at_218 rfl (fun T2 X2 => ?_)
  refine i_dup (pc' := 220) K X2 at_219 rfl rfl ?_
  refine i_bipush (pc' := 222) (v := (32 : Int32)) K X2 at_220 rfl rfl ?_
  refine i_iload (pc' := 224) K X2 at_222 rfl rfl ?_
  obtain ⟨A3, g3, hf⟩ := bs hf
  refine ast2 (pc' := 225) K X2 g3 at_224 rfl (fun T3 X3 => ?_)
  refine i_dup (pc' := 226) K X3 at_225 rfl rfl ?_
  refine i_bipush (pc' := 228) (v := (33 : Int32)) K X3 at_226 rfl rfl ?_
  refine i_iload (pc' := 230) K X3 at_228 rfl rfl ?_
  obtain ⟨A4, g4, hf⟩ := bs hf
  refine ast2 (pc' := 231) K X3 g4 at_230 rfl (fun T4 X4 => ?_)
  refine i_dup (pc' := 232) K X4 at_231 rfl rfl ?_
  refine i_bipush (pc' := 234) (v := (34 : Int32)) K X4 at_232 rfl rfl ?_
  exact w0_234 K sep X4 i0 i1 i2 i3 i4 i5 i6 i7 (34 : Int32) r2 r2 (show cells + 2 ≤ 16 by omega) (show slots + 43 ≤ 256 by omega) hf
def f0_186 (A : AH) (i1 : Int32) (i2 : Int32) (i4 : Int32) (i5 : Int32) (i6 : Int32) (i7 : Int32) (s0 : Int32) (r1 : Nat) (r2 : Nat) : Option (Int32 × AH) :=
  (h_aset A 2 r1 s0 (.int (nar .byte i6))).bind fun A1 =>
  (h_aset A1 2 r2 (27 : Int32) (.int (nar .byte i7))).bind fun A2 =>
  (h_aset A2 2 r2 (28 : Int32) (.int (nar .byte i6))).bind fun A3 =>
  (h_aset A3 2 r2 (29 : Int32) (.int (nar .byte i7))).bind fun A4 =>
  f0_210 A4 i1 i2 i4 i5 i6 i7 (30 : Int32) r2 r2
set_option maxRecDepth 65536 in
set_option maxHeartbeats 4000000 in
theorem w0_186 (K : Cx p l e room_1 s m meth c Z a0 tables_1 "com/example/sealwire/sealwire/dtls/DatagramRecordsHasNextPinLaw" "law" code maxLocals ret) (sep : ∀ t, Sep Z (own_D t).2) (X : On p l e room_1 s m args below meth c own_D Z n0 T A cells slots) (i0 : Int32) (i1 : Int32) (i2 : Int32) (i3 : Int32) (i4 : Int32) (i5 : Int32) (i6 : Int32) (i7 : Int32) (s0 : Int32) (r1 : Nat) (r2 : Nat) (hc : cells + 2 ≤ 16) (hs : slots + 43 ≤ 256) {q : Int32 × AH} (hf : f0_186 A i1 i2 i4 i5 i6 i7 s0 r1 r2 = some q) :
    Go p e below (T.setTop (mkF m 186 #[.val (.int i0), .val (.int i1), .val (.int i2), .val (.int i3), .val (.int i4), .val (.int i5), .val (.int i6), .val (.int i7), .unset, .unset, .unset, .unset, .unset, .unset, .unset, .unset] [(.int s0), (.ref (n0 + r1)), (.ref (n0 + r2))])) (Fini own_D Z n0 s room_1 (some (.int q.1)) q.2) := by
  unfold f0_186 at hf
  refine i_iload (pc' := 188) K X at_186 rfl rfl ?_
  obtain ⟨A1, g1, hf⟩ := bs hf
  refine ast2 (pc' := 189) K X g1 at_188 rfl (fun T1 X1 => ?_)
  refine i_dup (pc' := 190) K X1 at_189 rfl rfl ?_
  refine i_bipush (pc' := 192) (v := (27 : Int32)) K X1 at_190 rfl rfl ?_
  refine i_iload (pc' := 194) K X1 at_192 rfl rfl ?_
  obtain ⟨A2, g2, hf⟩ := bs hf
  refine ast2 (pc' := 195) K X1 g2 at_194 rfl (fun T2 X2 => ?_)
  refine i_dup (pc' := 196) K X2 at_195 rfl rfl ?_
  refine i_bipush (pc' := 198) (v := (28 : Int32)) K X2 at_196 rfl rfl ?_
  refine i_iload (pc' := 200) K X2 at_198 rfl rfl ?_
  obtain ⟨A3, g3, hf⟩ := bs hf
  refine ast2 (pc' := 201) K X2 g3 at_200 rfl (fun T3 X3 => ?_)
  refine i_dup (pc' := 202) K X3 at_201 rfl rfl ?_
  refine i_bipush (pc' := 204) (v := (29 : Int32)) K X3 at_202 rfl rfl ?_
  refine i_iload (pc' := 206) K X3 at_204 rfl rfl ?_
  obtain ⟨A4, g4, hf⟩ := bs hf
  refine ast2 (pc' := 207) K X3 g4 at_206 rfl (fun T4 X4 => ?_)
  refine i_dup (pc' := 208) K X4 at_207 rfl rfl ?_
  refine i_bipush (pc' := 210) (v := (30 : Int32)) K X4 at_208 rfl rfl ?_
  exact w0_210 K sep X4 i0 i1 i2 i3 i4 i5 i6 i7 (30 : Int32) r2 r2 (show cells + 2 ≤ 16 by omega) (show slots + 43 ≤ 256 by omega) hf
def f0_162 (A : AH) (i1 : Int32) (i2 : Int32) (i4 : Int32) (i5 : Int32) (i6 : Int32) (i7 : Int32) (s0 : Int32) (r1 : Nat) (r2 : Nat) : Option (Int32 × AH) :=
  (h_aset A 2 r1 s0 (.int (nar .byte i6))).bind fun A1 =>
  (h_aset A1 2 r2 (23 : Int32) (.int (nar .byte i7))).bind fun A2 =>
  (h_aset A2 2 r2 (24 : Int32) (.int (nar .byte i6))).bind fun A3 =>
  (h_aset A3 2 r2 (25 : Int32) (.int (nar .byte i7))).bind fun A4 =>
  f0_186 A4 i1 i2 i4 i5 i6 i7 (26 : Int32) r2 r2
set_option maxRecDepth 65536 in
set_option maxHeartbeats 4000000 in
theorem w0_162 (K : Cx p l e room_1 s m meth c Z a0 tables_1 "com/example/sealwire/sealwire/dtls/DatagramRecordsHasNextPinLaw" "law" code maxLocals ret) (sep : ∀ t, Sep Z (own_D t).2) (X : On p l e room_1 s m args below meth c own_D Z n0 T A cells slots) (i0 : Int32) (i1 : Int32) (i2 : Int32) (i3 : Int32) (i4 : Int32) (i5 : Int32) (i6 : Int32) (i7 : Int32) (s0 : Int32) (r1 : Nat) (r2 : Nat) (hc : cells + 2 ≤ 16) (hs : slots + 43 ≤ 256) {q : Int32 × AH} (hf : f0_162 A i1 i2 i4 i5 i6 i7 s0 r1 r2 = some q) :
    Go p e below (T.setTop (mkF m 162 #[.val (.int i0), .val (.int i1), .val (.int i2), .val (.int i3), .val (.int i4), .val (.int i5), .val (.int i6), .val (.int i7), .unset, .unset, .unset, .unset, .unset, .unset, .unset, .unset] [(.int s0), (.ref (n0 + r1)), (.ref (n0 + r2))])) (Fini own_D Z n0 s room_1 (some (.int q.1)) q.2) := by
  unfold f0_162 at hf
  refine i_iload (pc' := 164) K X at_162 rfl rfl ?_
  obtain ⟨A1, g1, hf⟩ := bs hf
  refine ast2 (pc' := 165) K X g1 at_164 rfl (fun T1 X1 => ?_)
  refine i_dup (pc' := 166) K X1 at_165 rfl rfl ?_
  refine i_bipush (pc' := 168) (v := (23 : Int32)) K X1 at_166 rfl rfl ?_
  refine i_iload (pc' := 170) K X1 at_168 rfl rfl ?_
  obtain ⟨A2, g2, hf⟩ := bs hf
  refine ast2 (pc' := 171) K X1 g2 at_170 rfl (fun T2 X2 => ?_)
  refine i_dup (pc' := 172) K X2 at_171 rfl rfl ?_
  refine i_bipush (pc' := 174) (v := (24 : Int32)) K X2 at_172 rfl rfl ?_
  refine i_iload (pc' := 176) K X2 at_174 rfl rfl ?_
  obtain ⟨A3, g3, hf⟩ := bs hf
  refine ast2 (pc' := 177) K X2 g3 at_176 rfl (fun T3 X3 => ?_)
  refine i_dup (pc' := 178) K X3 at_177 rfl rfl ?_
  refine i_bipush (pc' := 180) (v := (25 : Int32)) K X3 at_178 rfl rfl ?_
  refine i_iload (pc' := 182) K X3 at_180 rfl rfl ?_
  obtain ⟨A4, g4, hf⟩ := bs hf
  refine ast2 (pc' := 183) K X3 g4 at_182 rfl (fun T4 X4 => ?_)
  refine i_dup (pc' := 184) K X4 at_183 rfl rfl ?_
  refine i_bipush (pc' := 186) (v := (26 : Int32)) K X4 at_184 rfl rfl ?_
  exact w0_186 K sep X4 i0 i1 i2 i3 i4 i5 i6 i7 (26 : Int32) r2 r2 (show cells + 2 ≤ 16 by omega) (show slots + 43 ≤ 256 by omega) hf
def f0_138 (A : AH) (i1 : Int32) (i2 : Int32) (i4 : Int32) (i5 : Int32) (i6 : Int32) (i7 : Int32) (s0 : Int32) (r1 : Nat) (r2 : Nat) : Option (Int32 × AH) :=
  (h_aset A 2 r1 s0 (.int (nar .byte i6))).bind fun A1 =>
  (h_aset A1 2 r2 (19 : Int32) (.int (nar .byte i7))).bind fun A2 =>
  (h_aset A2 2 r2 (20 : Int32) (.int (nar .byte i6))).bind fun A3 =>
  (h_aset A3 2 r2 (21 : Int32) (.int (nar .byte i7))).bind fun A4 =>
  f0_162 A4 i1 i2 i4 i5 i6 i7 (22 : Int32) r2 r2
set_option maxRecDepth 65536 in
set_option maxHeartbeats 4000000 in
theorem w0_138 (K : Cx p l e room_1 s m meth c Z a0 tables_1 "com/example/sealwire/sealwire/dtls/DatagramRecordsHasNextPinLaw" "law" code maxLocals ret) (sep : ∀ t, Sep Z (own_D t).2) (X : On p l e room_1 s m args below meth c own_D Z n0 T A cells slots) (i0 : Int32) (i1 : Int32) (i2 : Int32) (i3 : Int32) (i4 : Int32) (i5 : Int32) (i6 : Int32) (i7 : Int32) (s0 : Int32) (r1 : Nat) (r2 : Nat) (hc : cells + 2 ≤ 16) (hs : slots + 43 ≤ 256) {q : Int32 × AH} (hf : f0_138 A i1 i2 i4 i5 i6 i7 s0 r1 r2 = some q) :
    Go p e below (T.setTop (mkF m 138 #[.val (.int i0), .val (.int i1), .val (.int i2), .val (.int i3), .val (.int i4), .val (.int i5), .val (.int i6), .val (.int i7), .unset, .unset, .unset, .unset, .unset, .unset, .unset, .unset] [(.int s0), (.ref (n0 + r1)), (.ref (n0 + r2))])) (Fini own_D Z n0 s room_1 (some (.int q.1)) q.2) := by
  unfold f0_138 at hf
  refine i_iload (pc' := 140) K X at_138 rfl rfl ?_
  obtain ⟨A1, g1, hf⟩ := bs hf
  refine ast2 (pc' := 141) K X g1 at_140 rfl (fun T1 X1 => ?_)
  refine i_dup (pc' := 142) K X1 at_141 rfl rfl ?_
  refine i_bipush (pc' := 144) (v := (19 : Int32)) K X1 at_142 rfl rfl ?_
  refine i_iload (pc' := 146) K X1 at_144 rfl rfl ?_
  obtain ⟨A2, g2, hf⟩ := bs hf
  refine ast2 (pc' := 147) K X1 g2 at_146 rfl (fun T2 X2 => ?_)
  refine i_dup (pc' := 148) K X2 at_147 rfl rfl ?_
  refine i_bipush (pc' := 150) (v := (20 : Int32)) K X2 at_148 rfl rfl ?_
  refine i_iload (pc' := 152) K X2 at_150 rfl rfl ?_
  obtain ⟨A3, g3, hf⟩ := bs hf
  refine ast2 (pc' := 153) K X2 g3 at_152 rfl (fun T3 X3 => ?_)
  refine i_dup (pc' := 154) K X3 at_153 rfl rfl ?_
  refine i_bipush (pc' := 156) (v := (21 : Int32)) K X3 at_154 rfl rfl ?_
  refine i_iload (pc' := 158) K X3 at_156 rfl rfl ?_
  obtain ⟨A4, g4, hf⟩ := bs hf
  refine ast2 (pc' := 159) K X3 g4 at_158 rfl (fun T4 X4 => ?_)
  refine i_dup (pc' := 160) K X4 at_159 rfl rfl ?_
  refine i_bipush (pc' := 162) (v := (22 : Int32)) K X4 at_160 rfl rfl ?_
  exact w0_162 K sep X4 i0 i1 i2 i3 i4 i5 i6 i7 (22 : Int32) r2 r2 (show cells + 2 ≤ 16 by omega) (show slots + 43 ≤ 256 by omega) hf
def f0_114 (A : AH) (i1 : Int32) (i2 : Int32) (i4 : Int32) (i5 : Int32) (i6 : Int32) (i7 : Int32) (s0 : Int32) (r1 : Nat) (r2 : Nat) : Option (Int32 × AH) :=
  (h_aset A 2 r1 s0 (.int (nar .byte i6))).bind fun A1 =>
  (h_aset A1 2 r2 (15 : Int32) (.int (nar .byte i7))).bind fun A2 =>
  (h_aset A2 2 r2 (16 : Int32) (.int (nar .byte i6))).bind fun A3 =>
  (h_aset A3 2 r2 (17 : Int32) (.int (nar .byte i7))).bind fun A4 =>
  f0_138 A4 i1 i2 i4 i5 i6 i7 (18 : Int32) r2 r2
set_option maxRecDepth 65536 in
set_option maxHeartbeats 4000000 in
theorem w0_114 (K : Cx p l e room_1 s m meth c Z a0 tables_1 "com/example/sealwire/sealwire/dtls/DatagramRecordsHasNextPinLaw" "law" code maxLocals ret) (sep : ∀ t, Sep Z (own_D t).2) (X : On p l e room_1 s m args below meth c own_D Z n0 T A cells slots) (i0 : Int32) (i1 : Int32) (i2 : Int32) (i3 : Int32) (i4 : Int32) (i5 : Int32) (i6 : Int32) (i7 : Int32) (s0 : Int32) (r1 : Nat) (r2 : Nat) (hc : cells + 2 ≤ 16) (hs : slots + 43 ≤ 256) {q : Int32 × AH} (hf : f0_114 A i1 i2 i4 i5 i6 i7 s0 r1 r2 = some q) :
    Go p e below (T.setTop (mkF m 114 #[.val (.int i0), .val (.int i1), .val (.int i2), .val (.int i3), .val (.int i4), .val (.int i5), .val (.int i6), .val (.int i7), .unset, .unset, .unset, .unset, .unset, .unset, .unset, .unset] [(.int s0), (.ref (n0 + r1)), (.ref (n0 + r2))])) (Fini own_D Z n0 s room_1 (some (.int q.1)) q.2) := by
  unfold f0_114 at hf
  refine i_iload (pc' := 116) K X at_114 rfl rfl ?_
  obtain ⟨A1, g1, hf⟩ := bs hf
  refine ast2 (pc' := 117) K X g1 at_116 rfl (fun T1 X1 => ?_)
  refine i_dup (pc' := 118) K X1 at_117 rfl rfl ?_
  refine i_bipush (pc' := 120) (v := (15 : Int32)) K X1 at_118 rfl rfl ?_
  refine i_iload (pc' := 122) K X1 at_120 rfl rfl ?_
  obtain ⟨A2, g2, hf⟩ := bs hf
  refine ast2 (pc' := 123) K X1 g2 at_122 rfl (fun T2 X2 => ?_)
  refine i_dup (pc' := 124) K X2 at_123 rfl rfl ?_
  refine i_bipush (pc' := 126) (v := (16 : Int32)) K X2 at_124 rfl rfl ?_
  refine i_iload (pc' := 128) K X2 at_126 rfl rfl ?_
  obtain ⟨A3, g3, hf⟩ := bs hf
  refine ast2 (pc' := 129) K X2 g3 at_128 rfl (fun T3 X3 => ?_)
  refine i_dup (pc' := 130) K X3 at_129 rfl rfl ?_
  refine i_bipush (pc' := 132) (v := (17 : Int32)) K X3 at_130 rfl rfl ?_
  refine i_iload (pc' := 134) K X3 at_132 rfl rfl ?_
  obtain ⟨A4, g4, hf⟩ := bs hf
  refine ast2 (pc' := 135) K X3 g4 at_134 rfl (fun T4 X4 => ?_)
  refine i_dup (pc' := 136) K X4 at_135 rfl rfl ?_
  refine i_bipush (pc' := 138) (v := (18 : Int32)) K X4 at_136 rfl rfl ?_
  exact w0_138 K sep X4 i0 i1 i2 i3 i4 i5 i6 i7 (18 : Int32) r2 r2 (show cells + 2 ≤ 16 by omega) (show slots + 43 ≤ 256 by omega) hf
def f0_90 (A : AH) (i1 : Int32) (i2 : Int32) (i4 : Int32) (i5 : Int32) (i6 : Int32) (i7 : Int32) (s0 : Int32) (r1 : Nat) (r2 : Nat) : Option (Int32 × AH) :=
  (h_aset A 2 r1 s0 (.int (nar .byte i6))).bind fun A1 =>
  (h_aset A1 2 r2 (11 : Int32) (.int (nar .byte i7))).bind fun A2 =>
  (h_aset A2 2 r2 (12 : Int32) (.int (nar .byte i6))).bind fun A3 =>
  (h_aset A3 2 r2 (13 : Int32) (.int (nar .byte i7))).bind fun A4 =>
  f0_114 A4 i1 i2 i4 i5 i6 i7 (14 : Int32) r2 r2
set_option maxRecDepth 65536 in
set_option maxHeartbeats 4000000 in
theorem w0_90 (K : Cx p l e room_1 s m meth c Z a0 tables_1 "com/example/sealwire/sealwire/dtls/DatagramRecordsHasNextPinLaw" "law" code maxLocals ret) (sep : ∀ t, Sep Z (own_D t).2) (X : On p l e room_1 s m args below meth c own_D Z n0 T A cells slots) (i0 : Int32) (i1 : Int32) (i2 : Int32) (i3 : Int32) (i4 : Int32) (i5 : Int32) (i6 : Int32) (i7 : Int32) (s0 : Int32) (r1 : Nat) (r2 : Nat) (hc : cells + 2 ≤ 16) (hs : slots + 43 ≤ 256) {q : Int32 × AH} (hf : f0_90 A i1 i2 i4 i5 i6 i7 s0 r1 r2 = some q) :
    Go p e below (T.setTop (mkF m 90 #[.val (.int i0), .val (.int i1), .val (.int i2), .val (.int i3), .val (.int i4), .val (.int i5), .val (.int i6), .val (.int i7), .unset, .unset, .unset, .unset, .unset, .unset, .unset, .unset] [(.int s0), (.ref (n0 + r1)), (.ref (n0 + r2))])) (Fini own_D Z n0 s room_1 (some (.int q.1)) q.2) := by
  unfold f0_90 at hf
  refine i_iload (pc' := 92) K X at_90 rfl rfl ?_
  obtain ⟨A1, g1, hf⟩ := bs hf
  refine ast2 (pc' := 93) K X g1 at_92 rfl (fun T1 X1 => ?_)
  refine i_dup (pc' := 94) K X1 at_93 rfl rfl ?_
  refine i_bipush (pc' := 96) (v := (11 : Int32)) K X1 at_94 rfl rfl ?_
  refine i_iload (pc' := 98) K X1 at_96 rfl rfl ?_
  obtain ⟨A2, g2, hf⟩ := bs hf
  refine ast2 (pc' := 99) K X1 g2 at_98 rfl (fun T2 X2 => ?_)
  refine i_dup (pc' := 100) K X2 at_99 rfl rfl ?_
  refine i_bipush (pc' := 102) (v := (12 : Int32)) K X2 at_100 rfl rfl ?_
  refine i_iload (pc' := 104) K X2 at_102 rfl rfl ?_
  obtain ⟨A3, g3, hf⟩ := bs hf
  refine ast2 (pc' := 105) K X2 g3 at_104 rfl (fun T3 X3 => ?_)
  refine i_dup (pc' := 106) K X3 at_105 rfl rfl ?_
  refine i_bipush (pc' := 108) (v := (13 : Int32)) K X3 at_106 rfl rfl ?_
  refine i_iload (pc' := 110) K X3 at_108 rfl rfl ?_
  obtain ⟨A4, g4, hf⟩ := bs hf
  refine ast2 (pc' := 111) K X3 g4 at_110 rfl (fun T4 X4 => ?_)
  refine i_dup (pc' := 112) K X4 at_111 rfl rfl ?_
  refine i_bipush (pc' := 114) (v := (14 : Int32)) K X4 at_112 rfl rfl ?_
  exact w0_114 K sep X4 i0 i1 i2 i3 i4 i5 i6 i7 (14 : Int32) r2 r2 (show cells + 2 ≤ 16 by omega) (show slots + 43 ≤ 256 by omega) hf
def f0_66 (A : AH) (i1 : Int32) (i2 : Int32) (i4 : Int32) (i5 : Int32) (i6 : Int32) (i7 : Int32) (s0 : Int32) (r1 : Nat) (r2 : Nat) : Option (Int32 × AH) :=
  (h_aset A 2 r1 s0 (.int (nar .byte i6))).bind fun A1 =>
  (h_aset A1 2 r2 (7 : Int32) (.int (nar .byte i7))).bind fun A2 =>
  (h_aset A2 2 r2 (8 : Int32) (.int (nar .byte i6))).bind fun A3 =>
  (h_aset A3 2 r2 (9 : Int32) (.int (nar .byte i7))).bind fun A4 =>
  f0_90 A4 i1 i2 i4 i5 i6 i7 (10 : Int32) r2 r2
set_option maxRecDepth 65536 in
set_option maxHeartbeats 4000000 in
theorem w0_66 (K : Cx p l e room_1 s m meth c Z a0 tables_1 "com/example/sealwire/sealwire/dtls/DatagramRecordsHasNextPinLaw" "law" code maxLocals ret) (sep : ∀ t, Sep Z (own_D t).2) (X : On p l e room_1 s m args below meth c own_D Z n0 T A cells slots) (i0 : Int32) (i1 : Int32) (i2 : Int32) (i3 : Int32) (i4 : Int32) (i5 : Int32) (i6 : Int32) (i7 : Int32) (s0 : Int32) (r1 : Nat) (r2 : Nat) (hc : cells + 2 ≤ 16) (hs : slots + 43 ≤ 256) {q : Int32 × AH} (hf : f0_66 A i1 i2 i4 i5 i6 i7 s0 r1 r2 = some q) :
    Go p e below (T.setTop (mkF m 66 #[.val (.int i0), .val (.int i1), .val (.int i2), .val (.int i3), .val (.int i4), .val (.int i5), .val (.int i6), .val (.int i7), .unset, .unset, .unset, .unset, .unset, .unset, .unset, .unset] [(.int s0), (.ref (n0 + r1)), (.ref (n0 + r2))])) (Fini own_D Z n0 s room_1 (some (.int q.1)) q.2) := by
  unfold f0_66 at hf
  refine i_iload (pc' := 68) K X at_66 rfl rfl ?_
  obtain ⟨A1, g1, hf⟩ := bs hf
  refine ast2 (pc' := 69) K X g1 at_68 rfl (fun T1 X1 => ?_)
  refine i_dup (pc' := 70) K X1 at_69 rfl rfl ?_
  refine i_bipush (pc' := 72) (v := (7 : Int32)) K X1 at_70 rfl rfl ?_
  refine i_iload (pc' := 74) K X1 at_72 rfl rfl ?_
  obtain ⟨A2, g2, hf⟩ := bs hf
  refine ast2 (pc' := 75) K X1 g2 at_74 rfl (fun T2 X2 => ?_)
  refine i_dup (pc' := 76) K X2 at_75 rfl rfl ?_
  refine i_bipush (pc' := 78) (v := (8 : Int32)) K X2 at_76 rfl rfl ?_
  refine i_iload (pc' := 80) K X2 at_78 rfl rfl ?_
  obtain ⟨A3, g3, hf⟩ := bs hf
  refine ast2 (pc' := 81) K X2 g3 at_80 rfl (fun T3 X3 => ?_)
  refine i_dup (pc' := 82) K X3 at_81 rfl rfl ?_
  refine i_bipush (pc' := 84) (v := (9 : Int32)) K X3 at_82 rfl rfl ?_
  refine i_iload (pc' := 86) K X3 at_84 rfl rfl ?_
  obtain ⟨A4, g4, hf⟩ := bs hf
  refine ast2 (pc' := 87) K X3 g4 at_86 rfl (fun T4 X4 => ?_)
  refine i_dup (pc' := 88) K X4 at_87 rfl rfl ?_
  refine i_bipush (pc' := 90) (v := (10 : Int32)) K X4 at_88 rfl rfl ?_
  exact w0_90 K sep X4 i0 i1 i2 i3 i4 i5 i6 i7 (10 : Int32) r2 r2 (show cells + 2 ≤ 16 by omega) (show slots + 43 ≤ 256 by omega) hf
def f0_45 (A : AH) (i1 : Int32) (i2 : Int32) (i4 : Int32) (i5 : Int32) (i6 : Int32) (i7 : Int32) (s0 : Int32) (r1 : Nat) (r2 : Nat) : Option (Int32 × AH) :=
  (h_aset A 2 r1 s0 (.int (nar .byte i6))).bind fun A1 =>
  (h_aset A1 2 r2 (3 : Int32) (.int (nar .byte i7))).bind fun A2 =>
  (h_aset A2 2 r2 (4 : Int32) (.int (nar .byte i6))).bind fun A3 =>
  (h_aset A3 2 r2 (5 : Int32) (.int (nar .byte i7))).bind fun A4 =>
  f0_66 A4 i1 i2 i4 i5 i6 i7 (6 : Int32) r2 r2
set_option maxRecDepth 65536 in
set_option maxHeartbeats 4000000 in
theorem w0_45 (K : Cx p l e room_1 s m meth c Z a0 tables_1 "com/example/sealwire/sealwire/dtls/DatagramRecordsHasNextPinLaw" "law" code maxLocals ret) (sep : ∀ t, Sep Z (own_D t).2) (X : On p l e room_1 s m args below meth c own_D Z n0 T A cells slots) (i0 : Int32) (i1 : Int32) (i2 : Int32) (i3 : Int32) (i4 : Int32) (i5 : Int32) (i6 : Int32) (i7 : Int32) (s0 : Int32) (r1 : Nat) (r2 : Nat) (hc : cells + 2 ≤ 16) (hs : slots + 43 ≤ 256) {q : Int32 × AH} (hf : f0_45 A i1 i2 i4 i5 i6 i7 s0 r1 r2 = some q) :
    Go p e below (T.setTop (mkF m 45 #[.val (.int i0), .val (.int i1), .val (.int i2), .val (.int i3), .val (.int i4), .val (.int i5), .val (.int i6), .val (.int i7), .unset, .unset, .unset, .unset, .unset, .unset, .unset, .unset] [(.int s0), (.ref (n0 + r1)), (.ref (n0 + r2))])) (Fini own_D Z n0 s room_1 (some (.int q.1)) q.2) := by
  unfold f0_45 at hf
  refine i_iload (pc' := 47) K X at_45 rfl rfl ?_
  obtain ⟨A1, g1, hf⟩ := bs hf
  refine ast2 (pc' := 48) K X g1 at_47 rfl (fun T1 X1 => ?_)
  refine i_dup (pc' := 49) K X1 at_48 rfl rfl ?_
  refine i_iconst (pc' := 50) (v := (3 : Int32)) K X1 at_49 rfl rfl ?_
  refine i_iload (pc' := 52) K X1 at_50 rfl rfl ?_
  obtain ⟨A2, g2, hf⟩ := bs hf
  refine ast2 (pc' := 53) K X1 g2 at_52 rfl (fun T2 X2 => ?_)
  refine i_dup (pc' := 54) K X2 at_53 rfl rfl ?_
  refine i_iconst (pc' := 55) (v := (4 : Int32)) K X2 at_54 rfl rfl ?_
  refine i_iload (pc' := 57) K X2 at_55 rfl rfl ?_
  obtain ⟨A3, g3, hf⟩ := bs hf
  refine ast2 (pc' := 58) K X2 g3 at_57 rfl (fun T3 X3 => ?_)
  refine i_dup (pc' := 59) K X3 at_58 rfl rfl ?_
  refine i_iconst (pc' := 60) (v := (5 : Int32)) K X3 at_59 rfl rfl ?_
  refine i_iload (pc' := 62) K X3 at_60 rfl rfl ?_
  obtain ⟨A4, g4, hf⟩ := bs hf
  refine ast2 (pc' := 63) K X3 g4 at_62 rfl (fun T4 X4 => ?_)
  refine i_dup (pc' := 64) K X4 at_63 rfl rfl ?_
  refine i_bipush (pc' := 66) (v := (6 : Int32)) K X4 at_64 rfl rfl ?_
  exact w0_66 K sep X4 i0 i1 i2 i3 i4 i5 i6 i7 (6 : Int32) r2 r2 (show cells + 2 ≤ 16 by omega) (show slots + 43 ≤ 256 by omega) hf
def f0_23 (A : AH) (i1 : Int32) (i2 : Int32) (i4 : Int32) (i5 : Int32) (s0 : Int32) : Option (Int32 × AH) :=
  (h_anew A 2 40 (40 : Int32) (.int 0)).bind fun q1 =>
  (h_aset q1.2 2 q1.1 (0 : Int32) (.int (nar .byte s0))).bind fun A2 =>
  (h_aset A2 2 q1.1 (1 : Int32) (.int (nar .byte ((i2).toInt8.toInt32)))).bind fun A3 =>
  f0_45 A3 i1 i2 i4 i5 s0 ((i2).toInt8.toInt32) (2 : Int32) q1.1 q1.1
set_option maxRecDepth 65536 in
set_option maxHeartbeats 4000000 in
theorem w0_23 (K : Cx p l e room_1 s m meth c Z a0 tables_1 "com/example/sealwire/sealwire/dtls/DatagramRecordsHasNextPinLaw" "law" code maxLocals ret) (sep : ∀ t, Sep Z (own_D t).2) (X : On p l e room_1 s m args below meth c own_D Z n0 T A cells slots) (i0 : Int32) (i1 : Int32) (i2 : Int32) (i3 : Int32) (i4 : Int32) (i5 : Int32) (s0 : Int32) (hc : cells + 3 ≤ 16) (hs : slots + 83 ≤ 256) {q : Int32 × AH} (hf : f0_23 A i1 i2 i4 i5 s0 = some q) :
    Go p e below (T.setTop (mkF m 23 #[.val (.int i0), .val (.int i1), .val (.int i2), .val (.int i3), .val (.int i4), .val (.int i5), .unset, .unset, .unset, .unset, .unset, .unset, .unset, .unset, .unset, .unset] [(.int s0)])) (Fini own_D Z n0 s room_1 (some (.int q.1)) q.2) := by
  unfold f0_23 at hf
  refine i_istore (pc' := 25) (Ls' := #[.val (.int i0), .val (.int i1), .val (.int i2), .val (.int i3), .val (.int i4), .val (.int i5), .val (.int s0), .unset, .unset, .unset, .unset, .unset, .unset, .unset, .unset, .unset]) K X at_23 rfl rfl ?_
  refine i_iloadN (pc' := 26) K X at_25 rfl rfl ?_
  refine i_i2b (pc' := 27) K X at_26 rfl ?_
  refine i_istore (pc' := 29) (Ls' := #[.val (.int i0), .val (.int i1), .val (.int i2), .val (.int i3), .val (.int i4), .val (.int i5), .val (.int s0), .val (.int ((i2).toInt8.toInt32)), .unset, .unset, .unset, .unset, .unset, .unset, .unset, .unset]) K X at_27 rfl rfl ?_
  refine i_bipush (pc' := 31) (v := (40 : Int32)) K X at_29 rfl rfl ?_
  obtain ⟨q1, g1, hf⟩ := bs hf
  refine newa (pc' := 33) K X (i1 := 1) (at' := .byte) rfl at_31 (t := 2) (cap := 40) (by decide) (show cells + 1 ≤ 16 by omega) (show slots + 40 ≤ 256 by omega) (by decide) rfl rfl g1 rfl (fun T1 X1 => ?_)
  refine i_dup (pc' := 34) K X1 at_33 rfl rfl ?_
  refine i_iconst (pc' := 35) (v := (0 : Int32)) K X1 at_34 rfl rfl ?_
  refine i_iload (pc' := 37) K X1 at_35 rfl rfl ?_
  obtain ⟨A2, g2, hf⟩ := bs hf
  refine ast2 (pc' := 38) K X1 g2 at_37 rfl (fun T2 X2 => ?_)
  refine i_dup (pc' := 39) K X2 at_38 rfl rfl ?_
  refine i_iconst (pc' := 40) (v := (1 : Int32)) K X2 at_39 rfl rfl ?_
  refine i_iload (pc' := 42) K X2 at_40 rfl rfl ?_
  obtain ⟨A3, g3, hf⟩ := bs hf
  refine ast2 (pc' := 43) K X2 g3 at_42 rfl (fun T3 X3 => ?_)
  refine i_dup (pc' := 44) K X3 at_43 rfl rfl ?_
  refine i_iconst (pc' := 45) (v := (2 : Int32)) K X3 at_44 rfl rfl ?_
  exact w0_45 K sep X3 i0 i1 i2 i3 i4 i5 s0 ((i2).toInt8.toInt32) (2 : Int32) q1.1 q1.1 (show cells + 1 + 2 ≤ 16 by omega) (show slots + 40 + 43 ≤ 256 by omega) hf
def f0_0 (A : AH) (i0 : Int32) (i1 : Int32) (i2 : Int32) (i3 : Int32) : Option (Int32 × AH) :=
  f0_23 A i1 i2 ((i0 &&& (2147483647 : Int32)) % (41 : Int32)) ((i3 &&& (2147483647 : Int32)) % (41 : Int32)) (((i2 >>> ((8 : Int32) &&& 31))).toInt8.toInt32)
set_option maxRecDepth 65536 in
set_option maxHeartbeats 4000000 in
theorem w0_0 (K : Cx p l e room_1 s m meth c Z a0 tables_1 "com/example/sealwire/sealwire/dtls/DatagramRecordsHasNextPinLaw" "law" code maxLocals ret) (sep : ∀ t, Sep Z (own_D t).2) (X : On p l e room_1 s m args below meth c own_D Z n0 T A cells slots) (i0 : Int32) (i1 : Int32) (i2 : Int32) (i3 : Int32) (hc : cells + 3 ≤ 16) (hs : slots + 83 ≤ 256) {q : Int32 × AH} (hf : f0_0 A i0 i1 i2 i3 = some q) :
    Go p e below (T.setTop (mkF m 0 #[.val (.int i0), .val (.int i1), .val (.int i2), .val (.int i3), .unset, .unset, .unset, .unset, .unset, .unset, .unset, .unset, .unset, .unset, .unset, .unset] [])) (Fini own_D Z n0 s room_1 (some (.int q.1)) q.2) := by
  unfold f0_0 at hf
  refine i_iloadN (pc' := 1) K X at_0 rfl rfl ?_
  refine ldcI (pc' := 3) (v := (2147483647 : Int32)) K X (i := 0) rfl at_1 rfl ?_
  refine i_iand (pc' := 4) K X at_3 rfl ?_
  refine i_bipush (pc' := 6) (v := (41 : Int32)) K X at_4 rfl rfl ?_
  refine i_irem (pc' := 7) K X at_6 rfl (by decide) ?_
  refine i_istore (pc' := 9) (Ls' := #[.val (.int i0), .val (.int i1), .val (.int i2), .val (.int i3), .val (.int ((i0 &&& (2147483647 : Int32)) % (41 : Int32))), .unset, .unset, .unset, .unset, .unset, .unset, .unset, .unset, .unset, .unset, .unset]) K X at_7 rfl rfl ?_
  refine i_iloadN (pc' := 10) K X at_9 rfl rfl ?_
  refine ldcI (pc' := 12) (v := (2147483647 : Int32)) K X (i := 0) rfl at_10 rfl ?_
  refine i_iand (pc' := 13) K X at_12 rfl ?_
  refine i_bipush (pc' := 15) (v := (41 : Int32)) K X at_13 rfl rfl ?_
  refine i_irem (pc' := 16) K X at_15 rfl (by decide) ?_
  refine i_istore (pc' := 18) (Ls' := #[.val (.int i0), .val (.int i1), .val (.int i2), .val (.int i3), .val (.int ((i0 &&& (2147483647 : Int32)) % (41 : Int32))), .val (.int ((i3 &&& (2147483647 : Int32)) % (41 : Int32))), .unset, .unset, .unset, .unset, .unset, .unset, .unset, .unset, .unset, .unset]) K X at_16 rfl rfl ?_
  refine i_iloadN (pc' := 19) K X at_18 rfl rfl ?_
  refine i_bipush (pc' := 21) (v := (8 : Int32)) K X at_19 rfl rfl ?_
  refine i_ishr (pc' := 22) K X at_21 rfl ?_
  refine i_i2b (pc' := 23) K X at_22 rfl ?_
  exact w0_23 K sep X i0 i1 i2 i3 ((i0 &&& (2147483647 : Int32)) % (41 : Int32)) ((i3 &&& (2147483647 : Int32)) % (41 : Int32)) (((i2 >>> ((8 : Int32) &&& 31))).toInt8.toInt32) (show cells + 3 ≤ 16 by omega) (show slots + 83 ≤ 256 by omega) hf
theorem pn_0 : plainName "com/example/sealwire/sealwire/dtls/DatagramRecordsHasNextPinLaw" = true := by first | (simp [plainName, overriddenIn]; done) | decide +kernel
theorem rm0 {l : Launch} {Z : State} {a0 : Array Value} {n0 : Nat} (hw : ∀ d ∈ tables_1, d.before a0 Z = true) (A : AH) (i0 : Int32) (i1 : Int32) (i2 : Int32) (i3 : Int32) {q : Int32 × AH} (hf : f0_0 A i0 i1 i2 i3 = some q) :
    Met l own_D Z n0 x code maxLocals ret room_1 [(.int i0), (.int i1), (.int i2), (.int i3)] A (some (.int q.1)) q.2 :=
  met (W := tables_1) (a0 := a0) (own := "com/example/sealwire/sealwire/dtls/DatagramRecordsHasNextPinLaw") (nm := "law") (L0 := #[.val (.int i0), .val (.int i1), .val (.int i2), .val (.int i3), .unset, .unset, .unset, .unset, .unset, .unset, .unset, .unset, .unset, .unset, .unset, .unset]) (plainFor_of_name pn_0) hw rfl rfl (fun m => by first | (simp [entryFrame, mkF, argsToLocals, Value.category, maxLocals]; done) | rfl) (fun p e s m below meth c T K X => w0_0 K (own_sep hw) X i0 i1 i2 i3 (show 0 + 3 ≤ 16 by decide) (show 0 + 83 ≤ 256 by decide) hf)
end OwnWalk
/-! the plain law -/
def own_V (h l x y : Int32) : List Value := [.int (nar .byte h), .int (nar .byte l), .int (nar .byte h), .int (nar .byte l), .int (nar .byte h), .int (nar .byte l), .int (nar .byte h), .int (nar .byte l), .int (nar .byte h), .int (nar .byte l), .int (nar .byte h), .int (nar .byte x), .int (nar .byte y), .int (nar .byte l), .int (nar .byte h), .int (nar .byte l), .int (nar .byte h), .int (nar .byte l), .int (nar .byte h), .int (nar .byte l), .int (nar .byte h), .int (nar .byte l), .int (nar .byte h), .int (nar .byte l), .int (nar .byte h), .int (nar .byte l), .int (nar .byte h), .int (nar .byte l), .int (nar .byte h), .int (nar .byte l), .int (nar .byte h), .int (nar .byte l), .int (nar .byte h), .int (nar .byte l), .int (nar .byte h), .int (nar .byte l), .int (nar .byte h), .int (nar .byte l), .int (nar .byte h), .int (nar .byte l)]
def own_S (h l x y : Int32) (W : List Value) (nx en : Int32) : AH := [(2, own_V h l x y), (2, W), (10, [.int nx, .int en, .ref 0])]
theorem own_g0 (h l x y : Int32) (W : List Value) (nx en : Int32) : h_fget (own_S h l x y W nx en) 10 2 0 = some (.int nx) := rfl
theorem own_g1 (h l x y : Int32) (W : List Value) (nx en : Int32) : h_fget (own_S h l x y W nx en) 10 2 1 = some (.int en) := rfl
theorem own_g2 (h l x y : Int32) (W : List Value) (nx en : Int32) : h_fget (own_S h l x y W nx en) 10 2 2 = some (.ref 0) := rfl
theorem own_s0 (h l x y : Int32) (W : List Value) (nx en v : Int32) : h_fset (own_S h l x y W nx en) 10 2 0 (.int v) = some (own_S h l x y W v en) := rfl
theorem own_s1 (h l x y : Int32) (W : List Value) (nx en v : Int32) : h_fset (own_S h l x y W nx en) 10 2 1 (.int v) = some (own_S h l x y W nx v) := rfl
theorem own_s2 (h l x y : Int32) (W : List Value) (nx en : Int32) : h_fset (own_S h l x y W nx en) 10 2 2 (.ref 0) = some (own_S h l x y W nx en) := rfl
theorem own_is (h l x y : Int32) (W : List Value) (nx en : Int32) : h_isA (own_S h l x y W nx en) 10 2 = some () := rfl
theorem own_len (h l x y : Int32) : (own_V h l x y).length = 40 := rfl
theorem own_take (h l x y : Int32) (W : List Value) (nx en v : Int32) : f3_0 (own_S h l x y W nx en) 2 0 v = some (own_S h l x y W 0 v) := by
  unfold f3_0
  rw [own_s2, Option.bind_some, own_s0, Option.bind_some, own_s1, Option.bind_some]
theorem own_has (h l x y : Int32) (W : List Value) (nx en : Int32) : f2_0 (own_S h l x y W nx en) 2 = some (if nx < en then 1 else 0, own_S h l x y W nx en) := by
  unfold f2_0 f2_16
  rw [own_g0, own_g1]
  simp only [asI, Option.bind_some]
  split <;> rfl
theorem own_min (a b : Int32) : (f5_0 a b).toInt = if b.toInt < a.toInt then b.toInt else a.toInt := by
  unfold f5_0 f5_10
  simp only [Int32.lt_iff_toInt_lt]
  split <;> rfl
theorem own_byte (x : Int32) : (nar .byte (x.toInt8.toInt32)) &&& (255 : Int32) = x &&& 255 := by
  apply Int32.toInt_inj.mp
  rw [c_mask _ 255 8 (by decide) (by decide), c_mask _ 255 8 (by decide) (by decide)]
  have h1 := c_i2b x
  have h2 := c_i2b (x.toInt8.toInt32)
  show (x.toInt8.toInt32.toInt8.toInt32).toInt % _ = _
  simp only [show ((2 ^ 8 : Nat) : Int) = 256 from rfl]
  omega
theorem own_cp (h l x y : Int32) (W : List Value) (hW : W.length = 40) (nx en n : Int32) (p0 : 0 ≤ nx.toInt) (n0 : 0 ≤ n.toInt) (pn : nx.toInt + n.toInt ≤ 40) : ∃ W', W'.length = 40 ∧ h_acp (own_S h l x y W nx en) 2 0 1 nx 0 n = some (own_S h l x y W' nx en) := by
  refine ⟨W.take (0 : Int32).toNatClampNeg ++ ((own_V h l x y).drop nx.toNatClampNeg).take n.toNatClampNeg ++ W.drop ((0 : Int32).toNatClampNeg + n.toNatClampNeg), ?_, ?_⟩
  · simp only [List.length_append, List.length_take, List.length_drop, own_len, hW, nclamp, show (0 : Int32).toInt = 0 from by decide]; omega
  · unfold h_acp own_S
    show (if _ then _ else _) = _
    rw [if_pos]
    · rfl
    · refine ⟨rfl, rfl, nneg.mpr p0, by decide, nneg.mpr n0, ?_, ?_⟩
      · rw [own_len]; simp only [nclamp]; omega
      · rw [hW]; simp only [nclamp, show (0 : Int32).toInt = 0 from by decide]; omega
theorem own_cp' (h l x y : Int32) (W : List Value) (hW : W.length = 40) (nx st en n : Int32) (p0 : 0 ≤ st.toInt) (n0 : 0 ≤ n.toInt) (pn : st.toInt + n.toInt ≤ 40) : ∃ W', W'.length = 40 ∧ h_acp (own_S h l x y W nx en) 2 0 1 st 0 n = some (own_S h l x y W' nx en) := by
  refine ⟨W.take (0 : Int32).toNatClampNeg ++ ((own_V h l x y).drop st.toNatClampNeg).take n.toNatClampNeg ++ W.drop ((0 : Int32).toNatClampNeg + n.toNatClampNeg), ?_, ?_⟩
  · simp only [List.length_append, List.length_take, List.length_drop, own_len, hW, nclamp, show (0 : Int32).toInt = 0 from by decide]; omega
  · unfold h_acp own_S
    show (if _ then _ else _) = _
    rw [if_pos]
    · rfl
    · refine ⟨rfl, rfl, nneg.mpr p0, by decide, nneg.mpr n0, ?_, ?_⟩
      · rw [own_len]; simp only [nclamp]; omega
      · rw [hW]; simp only [nclamp, show (0 : Int32).toInt = 0 from by decide]; omega
/-- the end of next(): the record's end is stored, its bytes copied -/
theorem own_77 (h l x y : Int32) (W : List Value) (hW : W.length = 40) (nx en st re : Int32) (p0 : 0 ≤ st.toInt) (p1 : st.toInt ≤ re.toInt) (p2 : re.toInt ≤ 40) : ∃ W' r, W'.length = 40 ∧ f4_77 (own_S h l x y W nx en) 2 1 0 40 st re = some (r, own_S h l x y W' re en) := by
  unfold f4_77 f4_107
  rw [own_s0, Option.bind_some, own_g2]
  simp only [asR, Option.bind_some]
  have s1 := c_isub re st
  have r1 := rng32 (re - st)
  have e1 : (re - st).toInt = re.toInt - st.toInt := by omega
  have m := own_min 40 (re - st)
  rw [e1, show (40 : Int32).toInt = 40 from by decide] at m
  have e2 : (f5_0 40 (re - st)).toInt = re.toInt - st.toInt := by
    rw [m]; split <;> omega
  obtain ⟨W', l1, l2⟩ := own_cp' h l x y W hW re st en (f5_0 40 (re - st)) p0 (by omega) (by omega)
  rw [l2]
  exact ⟨W', _, l1, rfl⟩
theorem own_frag (a b : Int32) : (((a &&& 255) <<< ((8 : Int32) &&& 31)) ||| (b &&& 255)).toInt = (a.toInt % 256) * 256 + b.toInt % 256 := by
  have e1 := c_mask a 255 8 (by decide) (by decide)
  have e2 := c_mask b 255 8 (by decide) (by decide)
  have e3 := c_ishl (a &&& 255) 8 8 (by decide)
  simp only [show ((2 ^ 8 : Nat) : Int) = 256 from rfl] at e1 e2 e3
  have r3 := rng32 ((a &&& 255) <<< ((8 : Int32) &&& 31))
  have e4 := c_or ((a &&& 255) <<< ((8 : Int32) &&& 31)) (b &&& 255) 8 (by decide) 256 rfl (by omega) (by omega) (by omega)
  have r4 := rng32 (((a &&& 255) <<< ((8 : Int32) &&& 31)) ||| (b &&& 255))
  omega
def own_re (nx en fr : Int32) : Int32 := if (en - nx) < (13 : Int32) then en else f5_0 en ((nx + 13) + fr)
theorem own_re_b (nx en a b : Int32) (p0 : 0 ≤ nx.toInt) (p1 : nx.toInt ≤ en.toInt) (p2 : en.toInt ≤ 40) : nx.toInt ≤ (own_re nx en (((a &&& 255) <<< ((8 : Int32) &&& 31)) ||| (b &&& 255))).toInt ∧ (own_re nx en (((a &&& 255) <<< ((8 : Int32) &&& 31)) ||| (b &&& 255))).toInt ≤ en.toInt := by
  unfold own_re
  split
  · exact ⟨p1, by omega⟩
  · rw [own_min]
    have f := own_frag a b
    have a1 := c_iadd nx 13
    rw [show (13 : Int32).toInt = 13 from by decide] at a1
    have a2 := c_iadd (nx + 13) (((a &&& 255) <<< ((8 : Int32) &&& 31)) ||| (b &&& 255))
    have r1 := rng32 (nx + 13)
    have r2 := rng32 ((nx + 13) + (((a &&& 255) <<< ((8 : Int32) &&& 31)) ||| (b &&& 255)))
    have e1 : (nx + 13).toInt = nx.toInt + 13 := by omega
    rw [e1, f] at a2
    split <;> omega
theorem own_next (h l x y : Int32) (W : List Value) (hW : W.length = 40) (nx en u w : Int32) (p0 : 0 ≤ nx.toInt) (p1 : nx.toInt ≤ en.toInt) (p2 : en.toInt ≤ 40)
    (hb : ¬ (en - nx) < (13 : Int32) → asI (h_aget (own_S h l x y W nx en) 2 0 (nx + 11)) = some u ∧ asI (h_aget (own_S h l x y W nx en) 2 0 ((nx + 11) + 1)) = some w) :
    ∃ W' r, W'.length = 40 ∧ f4_0 (own_S h l x y W nx en) 2 1 0 40 = some (r, own_S h l x y W' (own_re nx en (((u &&& 255) <<< ((8 : Int32) &&& 31)) ||| (w &&& 255))) en) := by
  have hbd := own_re_b nx en u w p0 p1 p2
  unfold f4_0
  rw [own_g0, own_g1]
  simp only [asI, Option.bind_some]
  unfold own_re at hbd ⊢
  by_cases c : (en - nx) < (13 : Int32)
  · rw [if_pos c]
    rw [if_pos c] at hbd ⊢
    exact own_77 h l x y W hW nx en nx en p0 p1 p2
  · rw [if_neg c]
    rw [if_neg c] at hbd ⊢
    obtain ⟨h1, h2⟩ := hb c
    rw [own_g2]
    simp only [asR, Option.bind_some]
    unfold f4_32 f4_41 f4_68
    rw [h1, Option.bind_some, own_g2]
    simp only [asR, Option.bind_some]
    rw [h2, Option.bind_some, own_g1]
    simp only [asI, Option.bind_some]
    exact own_77 h l x y W hW nx en nx _ p0 hbd.1 (by omega)
theorem own_oct (h l x y hi lo : Int32) (W : List Value) (nx en k : Int32) (hh : (nar .byte h) &&& 255 = hi) (hl : (nar .byte l) &&& 255 = lo) (k0 : 13 ≤ k.toInt) (k1 : k.toInt < 40) : ∃ v, asI (h_aget (own_S h l x y W nx en) 2 0 k) = some v ∧ v &&& 255 = f6_0 k hi lo := by
  unfold f6_0 f6_11
  have : k.toInt = 13 ∨ k.toInt = 14 ∨ k.toInt = 15 ∨ k.toInt = 16 ∨ k.toInt = 17 ∨ k.toInt = 18 ∨ k.toInt = 19 ∨ k.toInt = 20 ∨ k.toInt = 21 ∨ k.toInt = 22 ∨ k.toInt = 23 ∨ k.toInt = 24 ∨ k.toInt = 25 ∨ k.toInt = 26 ∨ k.toInt = 27 ∨ k.toInt = 28 ∨ k.toInt = 29 ∨ k.toInt = 30 ∨ k.toInt = 31 ∨ k.toInt = 32 ∨ k.toInt = 33 ∨ k.toInt = 34 ∨ k.toInt = 35 ∨ k.toInt = 36 ∨ k.toInt = 37 ∨ k.toInt = 38 ∨ k.toInt = 39 := by omega
  rcases this with g | g | g | g | g | g | g | g | g | g | g | g | g | g | g | g | g | g | g | g | g | g | g | g | g | g | g
  · obtain rfl : k = 13 := Int32.toInt_inj.mp (by rw [g]; decide)
    exact ⟨_, rfl, by rw [if_neg (by decide)]; exact hl⟩
  · obtain rfl : k = 14 := Int32.toInt_inj.mp (by rw [g]; decide)
    exact ⟨_, rfl, by rw [if_pos (by decide)]; exact hh⟩
  · obtain rfl : k = 15 := Int32.toInt_inj.mp (by rw [g]; decide)
    exact ⟨_, rfl, by rw [if_neg (by decide)]; exact hl⟩
  · obtain rfl : k = 16 := Int32.toInt_inj.mp (by rw [g]; decide)
    exact ⟨_, rfl, by rw [if_pos (by decide)]; exact hh⟩
  · obtain rfl : k = 17 := Int32.toInt_inj.mp (by rw [g]; decide)
    exact ⟨_, rfl, by rw [if_neg (by decide)]; exact hl⟩
  · obtain rfl : k = 18 := Int32.toInt_inj.mp (by rw [g]; decide)
    exact ⟨_, rfl, by rw [if_pos (by decide)]; exact hh⟩
  · obtain rfl : k = 19 := Int32.toInt_inj.mp (by rw [g]; decide)
    exact ⟨_, rfl, by rw [if_neg (by decide)]; exact hl⟩
  · obtain rfl : k = 20 := Int32.toInt_inj.mp (by rw [g]; decide)
    exact ⟨_, rfl, by rw [if_pos (by decide)]; exact hh⟩
  · obtain rfl : k = 21 := Int32.toInt_inj.mp (by rw [g]; decide)
    exact ⟨_, rfl, by rw [if_neg (by decide)]; exact hl⟩
  · obtain rfl : k = 22 := Int32.toInt_inj.mp (by rw [g]; decide)
    exact ⟨_, rfl, by rw [if_pos (by decide)]; exact hh⟩
  · obtain rfl : k = 23 := Int32.toInt_inj.mp (by rw [g]; decide)
    exact ⟨_, rfl, by rw [if_neg (by decide)]; exact hl⟩
  · obtain rfl : k = 24 := Int32.toInt_inj.mp (by rw [g]; decide)
    exact ⟨_, rfl, by rw [if_pos (by decide)]; exact hh⟩
  · obtain rfl : k = 25 := Int32.toInt_inj.mp (by rw [g]; decide)
    exact ⟨_, rfl, by rw [if_neg (by decide)]; exact hl⟩
  · obtain rfl : k = 26 := Int32.toInt_inj.mp (by rw [g]; decide)
    exact ⟨_, rfl, by rw [if_pos (by decide)]; exact hh⟩
  · obtain rfl : k = 27 := Int32.toInt_inj.mp (by rw [g]; decide)
    exact ⟨_, rfl, by rw [if_neg (by decide)]; exact hl⟩
  · obtain rfl : k = 28 := Int32.toInt_inj.mp (by rw [g]; decide)
    exact ⟨_, rfl, by rw [if_pos (by decide)]; exact hh⟩
  · obtain rfl : k = 29 := Int32.toInt_inj.mp (by rw [g]; decide)
    exact ⟨_, rfl, by rw [if_neg (by decide)]; exact hl⟩
  · obtain rfl : k = 30 := Int32.toInt_inj.mp (by rw [g]; decide)
    exact ⟨_, rfl, by rw [if_pos (by decide)]; exact hh⟩
  · obtain rfl : k = 31 := Int32.toInt_inj.mp (by rw [g]; decide)
    exact ⟨_, rfl, by rw [if_neg (by decide)]; exact hl⟩
  · obtain rfl : k = 32 := Int32.toInt_inj.mp (by rw [g]; decide)
    exact ⟨_, rfl, by rw [if_pos (by decide)]; exact hh⟩
  · obtain rfl : k = 33 := Int32.toInt_inj.mp (by rw [g]; decide)
    exact ⟨_, rfl, by rw [if_neg (by decide)]; exact hl⟩
  · obtain rfl : k = 34 := Int32.toInt_inj.mp (by rw [g]; decide)
    exact ⟨_, rfl, by rw [if_pos (by decide)]; exact hh⟩
  · obtain rfl : k = 35 := Int32.toInt_inj.mp (by rw [g]; decide)
    exact ⟨_, rfl, by rw [if_neg (by decide)]; exact hl⟩
  · obtain rfl : k = 36 := Int32.toInt_inj.mp (by rw [g]; decide)
    exact ⟨_, rfl, by rw [if_pos (by decide)]; exact hh⟩
  · obtain rfl : k = 37 := Int32.toInt_inj.mp (by rw [g]; decide)
    exact ⟨_, rfl, by rw [if_neg (by decide)]; exact hl⟩
  · obtain rfl : k = 38 := Int32.toInt_inj.mp (by rw [g]; decide)
    exact ⟨_, rfl, by rw [if_pos (by decide)]; exact hh⟩
  · obtain rfl : k = 39 := Int32.toInt_inj.mp (by rw [g]; decide)
    exact ⟨_, rfl, by rw [if_neg (by decide)]; exact hl⟩
theorem own_b {α β : Type} {x : Option α} {a : α} {f : α → Option β} {r : Option β} (h : x = some a) (k : f a = r) : x.bind f = r := by
  rw [h]; exact k
def own_W (n : Nat) (H L : Value) : List Value := (List.range 40).map fun i => if i < n then (if i % 2 = 0 then H else L) else .int 0
theorem own_mk1 (H L : Value) : h_anew [] 2 40 40 (.int 0) = some (0, [(2, own_W 0 H L)]) := rfl
theorem own_mk2 (vs : List Value) : h_anew [(2, vs)] 2 40 40 (.int 0) = some (1, [(2, vs), (2, List.replicate 40 (.int 0))]) := rfl
theorem own_x11 (H L X : Value) : h_aset [(2, own_W 40 H L)] 2 0 11 X = some [(2, (own_W 40 H L).set 11 X)] := rfl
theorem own_x12 (H L X Y : Value) : h_aset [(2, (own_W 40 H L).set 11 X)] 2 0 12 Y = some [(2, ((own_W 40 H L).set 11 X).set 12 Y)] := rfl
theorem own_fin (h l x y : Int32) : ((own_W 40 (.int (nar .byte h)) (.int (nar .byte l))).set 11 (.int (nar .byte x))).set 12 (.int (nar .byte y)) = own_V h l x y := rfl
theorem own_x_0 (H L : Value) : h_aset [(2, own_W 0 H L)] 2 0 0 H = some [(2, own_W 1 H L)] := rfl
theorem own_x_1 (H L : Value) : h_aset [(2, own_W 1 H L)] 2 0 1 L = some [(2, own_W 2 H L)] := rfl
theorem own_x_2 (H L : Value) : h_aset [(2, own_W 2 H L)] 2 0 2 H = some [(2, own_W 3 H L)] := rfl
theorem own_x_3 (H L : Value) : h_aset [(2, own_W 3 H L)] 2 0 3 L = some [(2, own_W 4 H L)] := rfl
theorem own_x_4 (H L : Value) : h_aset [(2, own_W 4 H L)] 2 0 4 H = some [(2, own_W 5 H L)] := rfl
theorem own_x_5 (H L : Value) : h_aset [(2, own_W 5 H L)] 2 0 5 L = some [(2, own_W 6 H L)] := rfl
theorem own_x_6 (H L : Value) : h_aset [(2, own_W 6 H L)] 2 0 6 H = some [(2, own_W 7 H L)] := rfl
theorem own_x_7 (H L : Value) : h_aset [(2, own_W 7 H L)] 2 0 7 L = some [(2, own_W 8 H L)] := rfl
theorem own_x_8 (H L : Value) : h_aset [(2, own_W 8 H L)] 2 0 8 H = some [(2, own_W 9 H L)] := rfl
theorem own_x_9 (H L : Value) : h_aset [(2, own_W 9 H L)] 2 0 9 L = some [(2, own_W 10 H L)] := rfl
theorem own_x_10 (H L : Value) : h_aset [(2, own_W 10 H L)] 2 0 10 H = some [(2, own_W 11 H L)] := rfl
theorem own_x_11 (H L : Value) : h_aset [(2, own_W 11 H L)] 2 0 11 L = some [(2, own_W 12 H L)] := rfl
theorem own_x_12 (H L : Value) : h_aset [(2, own_W 12 H L)] 2 0 12 H = some [(2, own_W 13 H L)] := rfl
theorem own_x_13 (H L : Value) : h_aset [(2, own_W 13 H L)] 2 0 13 L = some [(2, own_W 14 H L)] := rfl
theorem own_x_14 (H L : Value) : h_aset [(2, own_W 14 H L)] 2 0 14 H = some [(2, own_W 15 H L)] := rfl
theorem own_x_15 (H L : Value) : h_aset [(2, own_W 15 H L)] 2 0 15 L = some [(2, own_W 16 H L)] := rfl
theorem own_x_16 (H L : Value) : h_aset [(2, own_W 16 H L)] 2 0 16 H = some [(2, own_W 17 H L)] := rfl
theorem own_x_17 (H L : Value) : h_aset [(2, own_W 17 H L)] 2 0 17 L = some [(2, own_W 18 H L)] := rfl
theorem own_x_18 (H L : Value) : h_aset [(2, own_W 18 H L)] 2 0 18 H = some [(2, own_W 19 H L)] := rfl
theorem own_x_19 (H L : Value) : h_aset [(2, own_W 19 H L)] 2 0 19 L = some [(2, own_W 20 H L)] := rfl
theorem own_x_20 (H L : Value) : h_aset [(2, own_W 20 H L)] 2 0 20 H = some [(2, own_W 21 H L)] := rfl
theorem own_x_21 (H L : Value) : h_aset [(2, own_W 21 H L)] 2 0 21 L = some [(2, own_W 22 H L)] := rfl
theorem own_x_22 (H L : Value) : h_aset [(2, own_W 22 H L)] 2 0 22 H = some [(2, own_W 23 H L)] := rfl
theorem own_x_23 (H L : Value) : h_aset [(2, own_W 23 H L)] 2 0 23 L = some [(2, own_W 24 H L)] := rfl
theorem own_x_24 (H L : Value) : h_aset [(2, own_W 24 H L)] 2 0 24 H = some [(2, own_W 25 H L)] := rfl
theorem own_x_25 (H L : Value) : h_aset [(2, own_W 25 H L)] 2 0 25 L = some [(2, own_W 26 H L)] := rfl
theorem own_x_26 (H L : Value) : h_aset [(2, own_W 26 H L)] 2 0 26 H = some [(2, own_W 27 H L)] := rfl
theorem own_x_27 (H L : Value) : h_aset [(2, own_W 27 H L)] 2 0 27 L = some [(2, own_W 28 H L)] := rfl
theorem own_x_28 (H L : Value) : h_aset [(2, own_W 28 H L)] 2 0 28 H = some [(2, own_W 29 H L)] := rfl
theorem own_x_29 (H L : Value) : h_aset [(2, own_W 29 H L)] 2 0 29 L = some [(2, own_W 30 H L)] := rfl
theorem own_x_30 (H L : Value) : h_aset [(2, own_W 30 H L)] 2 0 30 H = some [(2, own_W 31 H L)] := rfl
theorem own_x_31 (H L : Value) : h_aset [(2, own_W 31 H L)] 2 0 31 L = some [(2, own_W 32 H L)] := rfl
theorem own_x_32 (H L : Value) : h_aset [(2, own_W 32 H L)] 2 0 32 H = some [(2, own_W 33 H L)] := rfl
theorem own_x_33 (H L : Value) : h_aset [(2, own_W 33 H L)] 2 0 33 L = some [(2, own_W 34 H L)] := rfl
theorem own_x_34 (H L : Value) : h_aset [(2, own_W 34 H L)] 2 0 34 H = some [(2, own_W 35 H L)] := rfl
theorem own_x_35 (H L : Value) : h_aset [(2, own_W 35 H L)] 2 0 35 L = some [(2, own_W 36 H L)] := rfl
theorem own_x_36 (H L : Value) : h_aset [(2, own_W 36 H L)] 2 0 36 H = some [(2, own_W 37 H L)] := rfl
theorem own_x_37 (H L : Value) : h_aset [(2, own_W 37 H L)] 2 0 37 L = some [(2, own_W 38 H L)] := rfl
theorem own_x_38 (H L : Value) : h_aset [(2, own_W 38 H L)] 2 0 38 H = some [(2, own_W 39 H L)] := rfl
theorem own_x_39 (H L : Value) : h_aset [(2, own_W 39 H L)] 2 0 39 L = some [(2, own_W 40 H L)] := rfl
set_option maxRecDepth 65536 in
set_option maxHeartbeats 4000000 in
theorem own_setup (b c len len2 h l : Int32) (hh : h = ((c >>> ((8 : Int32) &&& 31)).toInt8.toInt32)) (hl : l = (c.toInt8.toInt32)) : f0_23 [] b c len len2 h = f0_300 [(2, own_V h l ((b >>> ((8 : Int32) &&& 31)).toInt8.toInt32) (b.toInt8.toInt32)), (2, List.replicate 40 (.int 0))] b c len len2 0 1 ((c >>> ((8 : Int32) &&& 31)) &&& 255) := by
  rw [← own_fin]
  unfold f0_23
  rw [← hl]
  refine own_b (own_mk1 (.int (nar .byte h)) (.int (nar .byte l))) ?_
  refine own_b (own_x_0 _ _) ?_
  refine own_b (own_x_1 _ _) ?_
  unfold f0_45
  refine own_b (own_x_2 _ _) ?_
  refine own_b (own_x_3 _ _) ?_
  refine own_b (own_x_4 _ _) ?_
  refine own_b (own_x_5 _ _) ?_
  unfold f0_66
  refine own_b (own_x_6 _ _) ?_
  refine own_b (own_x_7 _ _) ?_
  refine own_b (own_x_8 _ _) ?_
  refine own_b (own_x_9 _ _) ?_
  unfold f0_90
  refine own_b (own_x_10 _ _) ?_
  refine own_b (own_x_11 _ _) ?_
  refine own_b (own_x_12 _ _) ?_
  refine own_b (own_x_13 _ _) ?_
  unfold f0_114
  refine own_b (own_x_14 _ _) ?_
  refine own_b (own_x_15 _ _) ?_
  refine own_b (own_x_16 _ _) ?_
  refine own_b (own_x_17 _ _) ?_
  unfold f0_138
  refine own_b (own_x_18 _ _) ?_
  refine own_b (own_x_19 _ _) ?_
  refine own_b (own_x_20 _ _) ?_
  refine own_b (own_x_21 _ _) ?_
  unfold f0_162
  refine own_b (own_x_22 _ _) ?_
  refine own_b (own_x_23 _ _) ?_
  refine own_b (own_x_24 _ _) ?_
  refine own_b (own_x_25 _ _) ?_
  unfold f0_186
  refine own_b (own_x_26 _ _) ?_
  refine own_b (own_x_27 _ _) ?_
  refine own_b (own_x_28 _ _) ?_
  refine own_b (own_x_29 _ _) ?_
  unfold f0_210
  refine own_b (own_x_30 _ _) ?_
  refine own_b (own_x_31 _ _) ?_
  refine own_b (own_x_32 _ _) ?_
  refine own_b (own_x_33 _ _) ?_
  unfold f0_234
  refine own_b (own_x_34 _ _) ?_
  refine own_b (own_x_35 _ _) ?_
  refine own_b (own_x_36 _ _) ?_
  refine own_b (own_x_37 _ _) ?_
  unfold f0_258
  refine own_b (own_x_38 _ _) ?_
  refine own_b (own_x_39 _ _) ?_
  refine own_b (own_x11 _ _ _) ?_
  unfold f0_283
  refine own_b (own_x12 _ _ _ _) ?_
  refine own_b (own_mk2 _) ?_
  rfl
def own_N (h l x y : Int32) (W : List Value) : AH := [(2, own_V h l x y), (2, W), (10, [.int 0, .int 0, .null])]
theorem own_onew (h l x y : Int32) (W : List Value) : h_onew [(2, own_V h l x y), (2, W)] 10 own_ds10 = some (2, own_N h l x y W) := rfl
theorem own_Nis (h l x y : Int32) (W : List Value) : h_isA (own_N h l x y W) 10 2 = some () := rfl
theorem own_Nhas (h l x y : Int32) (W : List Value) : f2_0 (own_N h l x y W) 2 = some (0, own_N h l x y W) := by
  unfold f2_0 f2_16
  rw [show h_fget (own_N h l x y W) 10 2 0 = some (.int 0) from rfl, show h_fget (own_N h l x y W) 10 2 1 = some (.int 0) from rfl]
  simp only [asI, Option.bind_some]
  rw [if_neg (by decide), nar0]
theorem own_Ntake (h l x y : Int32) (W : List Value) (v : Int32) : f3_0 (own_N h l x y W) 2 0 v = some (own_S h l x y W 0 v) := by
  unfold f3_0
  rw [show h_fset (own_N h l x y W) 10 2 2 (.ref 0) = some (own_S h l x y W 0 0) from rfl, Option.bind_some, own_s0, Option.bind_some, own_s1, Option.bind_some]
theorem own_ii {α : Type} (p : Prop) [Decidable p] (F : Int32 → Int32 → α) (v : α) (hF : ∀ k, F k k = v) : (if p then F 1 (if p then 1 else 0) else F 0 (if p then 1 else 0)) = v := by
  by_cases c : p
  · rw [if_pos c, if_pos c]; exact hF 1
  · rw [if_neg c, if_neg c]; exact hF 0
theorem own_425 (h l x y : Int32) (W : List Value) (len len2 r1 r2 : Int32) : f0_425 (own_N h l x y W) len len2 0 1 r1 r2 2 1 = f0_464 (own_S h l x y W 0 len) len len2 0 1 r1 r2 2 1 := by
  unfold f0_425
  rw [own_Nis, Option.bind_some, own_Ntake, Option.bind_some, if_neg (show ¬((1 : Int32) = 0) from by decide), own_is, Option.bind_some, own_has, Option.bind_some]
  exact own_ii (0 < len) (fun k m => f0_456 (own_S h l x y W 0 len) len len2 0 1 r1 r2 2 k m) _ (fun k => by show f0_456 _ _ _ _ _ _ _ _ _ _ = _; unfold f0_456; rw [if_pos rfl])
theorem own_464 (h l x y : Int32) (W W1 : List Value) (nx len len2 r1 r2 q : Int32) (e1 : f4_0 (own_S h l x y W nx len) 2 1 0 40 = some (q, own_S h l x y W1 r1 len)) : f0_464 (own_S h l x y W nx len) len len2 0 1 r1 r2 2 1 = f0_507 (own_S h l x y W1 r1 len) len len2 0 1 r2 2 1 := by
  unfold f0_464
  rw [own_is, Option.bind_some, e1, Option.bind_some, if_neg (show ¬((1 : Int32) = 0) from by decide)]
  dsimp only
  rw [own_is, Option.bind_some, own_has, Option.bind_some]
  exact own_ii (r1 < len) (fun k m => f0_499 (own_S h l x y W1 r1 len) len len2 0 1 r2 2 k m) _ (fun k => by show f0_499 _ _ _ _ _ _ _ _ _ = _; unfold f0_499; rw [if_pos rfl])
theorem own_507 (h l x y : Int32) (W W1 : List Value) (nx len len2 r2 q : Int32) (e1 : f4_0 (own_S h l x y W nx len) 2 1 0 40 = some (q, own_S h l x y W1 r2 len)) : f0_507 (own_S h l x y W nx len) len len2 0 1 r2 2 1 = f0_550 (own_S h l x y W1 r2 len) len2 0 2 1 := by
  unfold f0_507
  rw [own_is, Option.bind_some, e1, Option.bind_some, if_neg (show ¬((1 : Int32) = 0) from by decide)]
  dsimp only
  rw [own_is, Option.bind_some, own_has, Option.bind_some]
  exact own_ii (r2 < len) (fun k m => f0_542 (own_S h l x y W1 r2 len) len2 0 2 k m) _ (fun k => by show f0_542 _ _ _ _ _ _ = _; unfold f0_542; rw [if_pos rfl])
theorem own_550 (h l x y : Int32) (W : List Value) (nx len len2 : Int32) : f0_550 (own_S h l x y W nx len) len2 0 2 1 = some (1, own_S h l x y W 0 len2) := by
  unfold f0_550
  rw [own_is, Option.bind_some, own_take, Option.bind_some, if_neg (show ¬((1 : Int32) = 0) from by decide), own_is, Option.bind_some, own_has, Option.bind_some]
  exact own_ii (0 < len2) (fun k m => f0_581 (own_S h l x y W 0 len2) k m) _ (fun k => by show f0_581 _ _ _ = _; unfold f0_581 f0_589; rw [if_pos rfl, nar1])
theorem own_403 (h l x y : Int32) (W : List Value) (len len2 r1 r2 : Int32) : f0_403 [(2, own_V h l x y), (2, W)] len len2 0 1 r1 r2 = f0_425 (own_N h l x y W) len len2 0 1 r1 r2 2 1 := by
  unfold f0_403 f1_0
  rw [own_onew, Option.bind_some, Option.bind_some]
  dsimp only
  rw [own_Nis, Option.bind_some, own_Nhas, Option.bind_some]
  dsimp only
  rw [if_pos rfl]
theorem own_fr1 (b : Int32) : ((((nar .byte ((b >>> ((8 : Int32) &&& 31)).toInt8.toInt32)) &&& 255) <<< ((8 : Int32) &&& 31)) ||| ((nar .byte (b.toInt8.toInt32)) &&& 255)) = b &&& 65535 := by
  rw [own_byte, own_byte]
  apply Int32.toInt_inj.mp
  have e1 := own_frag (b >>> ((8 : Int32) &&& 31)) b
  have e2 := c_ishr b 8 8 (by decide)
  have e3 := c_mask b 65535 16 (by decide) (by decide)
  simp only [show ((2 ^ 8 : Nat) : Int) = 256 from rfl, show ((2 ^ 16 : Nat) : Int) = 65536 from rfl] at e2 e3
  rw [e1, e2, e3]
  omega
theorem own_341 (A : AH) (len len2 hi lo r1 : Int32) : f0_341 A len len2 0 1 hi lo r1 = f0_403 A len len2 0 1 r1 (own_re r1 len (((f6_0 (r1 + 11) hi lo) <<< ((8 : Int32) &&& 31)) ||| (f6_0 (r1 + 12) hi lo))) := by
  unfold f0_341 f0_366 f0_391 own_re
  by_cases c : (len - r1) < (13 : Int32)
  · rw [if_pos c, if_pos c]
  · rw [if_neg c, if_neg c]
theorem own_300 (A : AH) (b c len len2 hi : Int32) : f0_300 A b c len len2 0 1 hi = f0_341 A len len2 0 1 hi (c &&& 255) (own_re 0 len (b &&& 65535)) := by
  unfold f0_300 f0_329 own_re
  rw [Int32.sub_zero, Int32.zero_add]
  by_cases k : len < (13 : Int32)
  · rw [if_pos k, if_pos k]
  · rw [if_neg k, if_neg k]
theorem own_next1 (h l b : Int32) (W : List Value) (hW : W.length = 40) (len : Int32) (p1 : 0 ≤ len.toInt) (p2 : len.toInt ≤ 40) :
    ∃ W' r, W'.length = 40 ∧ f4_0 (own_S h l ((b >>> ((8 : Int32) &&& 31)).toInt8.toInt32) (b.toInt8.toInt32) W 0 len) 2 1 0 40 = some (r, own_S h l ((b >>> ((8 : Int32) &&& 31)).toInt8.toInt32) (b.toInt8.toInt32) W' (own_re 0 len (b &&& 65535)) len) := by
  have n := own_next h l ((b >>> ((8 : Int32) &&& 31)).toInt8.toInt32) (b.toInt8.toInt32) W hW 0 len (nar .byte ((b >>> ((8 : Int32) &&& 31)).toInt8.toInt32)) (nar .byte (b.toInt8.toInt32)) (by decide) p1 p2 (by
    intro _
    rw [show (0 : Int32) + 11 = 11 from by decide, show (11 : Int32) + 1 = 12 from by decide]
    exact ⟨rfl, rfl⟩)
  rw [own_fr1] at n
  exact n
theorem own_next2 (h l x y hi lo : Int32) (W : List Value) (hW : W.length = 40) (len r1 : Int32) (hh : (nar .byte h) &&& 255 = hi) (hl : (nar .byte l) &&& 255 = lo) (p0 : 0 ≤ r1.toInt) (p1 : r1.toInt ≤ len.toInt) (p2 : len.toInt ≤ 40) (p3 : ¬ (len - r1) < (13 : Int32) → 13 ≤ r1.toInt) :
    ∃ W' r, W'.length = 40 ∧ f4_0 (own_S h l x y W r1 len) 2 1 0 40 = some (r, own_S h l x y W' (own_re r1 len (((f6_0 (r1 + 11) hi lo) <<< ((8 : Int32) &&& 31)) ||| (f6_0 (r1 + 12) hi lo))) len) := by
  by_cases c : (len - r1) < (13 : Int32)
  · have n := own_next h l x y W hW r1 len 0 0 p0 p1 p2 (fun k => absurd c k)
    unfold own_re at n ⊢
    rw [if_pos c] at n ⊢
    exact n
  · have q3 := p3 c
    rw [Int32.lt_iff_toInt_lt, show (13 : Int32).toInt = 13 from by decide] at c
    have s := c_isub len r1
    have rs := rng32 (len - r1)
    have a1 := c_iadd r1 11
    have a2 := c_iadd r1 12
    rw [show (11 : Int32).toInt = 11 from by decide] at a1
    rw [show (12 : Int32).toInt = 12 from by decide] at a2
    have r11 := rng32 (r1 + 11)
    have r12 := rng32 (r1 + 12)
    obtain ⟨u, u1, u2⟩ := own_oct h l x y hi lo W r1 len (r1 + 11) hh hl (by omega) (by omega)
    obtain ⟨w, w1, w2⟩ := own_oct h l x y hi lo W r1 len (r1 + 12) hh hl (by omega) (by omega)
    have n := own_next h l x y W hW r1 len u w p0 p1 p2 (fun _ => ⟨u1, by rw [Int32.add_assoc, show (11 : Int32) + 1 = 12 from by decide]; exact w1⟩)
    rw [u2, w2] at n
    exact n
theorem own_mod (a : Int32) : 0 ≤ ((a &&& 2147483647) % 41).toInt ∧ ((a &&& 2147483647) % 41).toInt ≤ 40 := by
  have m := c_mask a 2147483647 31 (by decide) (by decide)
  simp only [show ((2 ^ 31 : Nat) : Int) = 2147483648 from rfl] at m
  have e := (c_irem (a &&& 2147483647) 41 41 (by decide)).1 (by omega)
  omega
theorem own_all (b c len len2 : Int32) (p1 : 0 ≤ len.toInt) (p2 : len.toInt ≤ 40) : ∃ A, f0_23 [] b c len len2 ((c >>> ((8 : Int32) &&& 31)).toInt8.toInt32) = some (1, A) := by
  rw [own_setup b c len len2 _ _ rfl rfl, own_300, own_341, own_403, own_425]
  have hf : (b &&& 65535).toInt = b.toInt % 65536 := by
    have e3 := c_mask b 65535 16 (by decide) (by decide)
    simp only [show ((2 ^ 16 : Nat) : Int) = 65536 from rfl] at e3
    exact e3
  have b0 : 0 ≤ (own_re 0 len (b &&& 65535)).toInt ∧ (own_re 0 len (b &&& 65535)).toInt ≤ len.toInt := by
    have := own_re_b 0 len (nar .byte ((b >>> ((8 : Int32) &&& 31)).toInt8.toInt32)) (nar .byte (b.toInt8.toInt32)) (by decide) p1 p2
    rw [own_fr1] at this
    exact this
  have b3 : ¬ (len - own_re 0 len (b &&& 65535)) < (13 : Int32) → 13 ≤ (own_re 0 len (b &&& 65535)).toInt := by
    intro k
    unfold own_re at k ⊢
    rw [Int32.sub_zero, Int32.zero_add] at k ⊢
    by_cases d : len < (13 : Int32)
    · rw [if_pos d, Int32.sub_self] at k
      exact absurd (by decide) k
    · rw [if_neg d, own_min]
      rw [Int32.lt_iff_toInt_lt, show (13 : Int32).toInt = 13 from by decide] at d
      have a1 := c_iadd 13 (b &&& 65535)
      rw [show (13 : Int32).toInt = 13 from by decide] at a1
      have r1 := rng32 (13 + (b &&& 65535))
      split <;> omega
  obtain ⟨W1, q1, k1, e1⟩ := own_next1 ((c >>> ((8 : Int32) &&& 31)).toInt8.toInt32) (c.toInt8.toInt32) b (List.replicate 40 (.int 0)) (by simp) len p1 p2
  obtain ⟨W2, q2, k2, e2⟩ := own_next2 ((c >>> ((8 : Int32) &&& 31)).toInt8.toInt32) (c.toInt8.toInt32) ((b >>> ((8 : Int32) &&& 31)).toInt8.toInt32) (b.toInt8.toInt32) ((c >>> ((8 : Int32) &&& 31)) &&& 255) (c &&& 255) W1 k1 len _ (own_byte _) (own_byte _) b0.1 b0.2 p2 b3
  rw [own_464 _ _ _ _ _ _ _ _ _ _ _ _ e1, own_507 _ _ _ _ _ _ _ _ _ _ _ e2, own_550]
  exact ⟨_, rfl⟩
theorem own_plain (i0 i1 i2 i3 : Int32) : ∃ A, f0_0 [] i0 i1 i2 i3 = some (1, A) := by
  unfold f0_0
  exact own_all i1 i2 _ _ (own_mod i0).1 (own_mod i0).2
set_option maxRecDepth 65536 in
set_option maxHeartbeats 4000000 in
theorem comes_1 {Post : Tables → Env → Array Value → State → Outcome → State → Prop} (hpost : ∀ tb e args s v u, (limb_1_1.after args s (.returned v) u = true ∧ limb_1_2.after args s (.returned v) u = true) → FrameEnd s (.returned v) u (Jvm.fieldLocs frame_1_writes args s ++ Jvm.arrayLocs frame_1_arrays args s ++ Jvm.staticLocs frame_1_statics s) 16 256 → Post tb e args s (.returned v) u) :
    ArmFor flags0 classFile x code maxLocals ret World_1 tables_1 room_1 Calls_1 rest_1 Pre_1 Post := by
  intro l hfl _ _ p e ha hc hk s m args below hf hA hF happ hP
  obtain ⟨hcalls, hrest, hpre⟩ := hP
  obtain ⟨-, -, -, hnamed, -, -, -, hat⟩ := (Spec.applies_iff hf).mp happ
  obtain ⟨hg, hn⟩ := and_e (Cond.before_iff.mp (show (Jvm.Cond.and given_1 narrow_1).before args s = true from hpre))
  obtain ⟨b0, hg⟩ := and_e hg
  obtain ⟨b1, hg⟩ := and_e hg
  obtain ⟨b2, hg⟩ := and_e hg
  obtain ⟨b3, hg⟩ := and_e hg
  have b4 := hg
  obtain ⟨w0, w1, w2, w3, rfl⟩ : ∃ w0 w1 w2 w3 : Value, args = #[w0, w1, w2, w3] := by
    have hs : args.size = 4 := by simpa [Cond.value, given_1] using b0
    obtain ⟨L⟩ := args
    match L, hs with
    | [w0, w1, w2, w3], _ => exact ⟨w0, w1, w2, w3, rfl⟩
  have hw := fun d (hd : d ∈ tables_1) => atoms_spec (ws := Jvm.Cond.code x code maxLocals ret :: tables_1) hat d (List.mem_cons_of_mem _ hd)
  obtain ⟨i0, ei0⟩ := is_v b1
  obtain rfl : w0 = (.int i0) := Option.some.inj ei0
  obtain ⟨i1, ei1⟩ := is_v b2
  obtain rfl : w1 = (.int i1) := Option.some.inj ei1
  obtain ⟨i2, ei2⟩ := is_v b3
  obtain rfl : w2 = (.int i2) := Option.some.inj ei2
  obtain ⟨i3, ei3⟩ := is_v b4
  obtain rfl : w3 = (.int i3) := Option.some.inj ei3
  have RA : Rep own_D s s.heap.size s.heap [] := ⟨rfl, fun i t vs e => by simp at e⟩
  obtain ⟨AE, hv⟩ := own_plain i0 i1 i2 i3
  obtain ⟨n, o, h1, h2, h3, v, L, rfl, ⟨rfl, N, -⟩, hq⟩ := rm0 (l := l) (n0 := s.heap.size) hw [] i0 i1 i2 i3 hv tables_1 s.heap RA p e ha hc hk s m _ below hf ((Spec.applies_iff_loose hf).mp happ).1 ⟨rfl, State.Warmed39.refl s, rfl⟩ trivial
  refine ⟨n, _, h1, h2, h3, hpost _ _ _ _ _ _ ⟨Cond.after_iff.mpr rfl, Cond.after_iff.mpr (eq_i res_at (Term.int_eval (1)) rfl)⟩ ⟨hq.1, hq.2.1, (hq.2.2.sift fun y hy => Or.inr (N y hy)).mono (by decide) (by decide)⟩⟩
theorem main_1_1 : Claimed_1_1 := comes_1 fun _ _ _ _ _ _ h hF => ⟨h.1, hF⟩
theorem main_1_2 : Claimed_1_2 := comes_1 fun _ _ _ _ _ _ h hF => ⟨h.2, hF⟩
end Jvm.Pilot.@@N@@
namespace Jvm.Pilot.@@N@@
open Jvm Jvm.ClassFile Sem Op Lib Jvm.Free Jvm.Stand Jvm.Pilot.@@N@@.Jvm.D
/-! MADE BY PROGRAM (witnessworld.py) out of the Statement's table words and the real class files: 11 classes; the members and pool entries that the words name. The judged class is class 1, her method 2. -/
namespace start1
open Jvm.ClassFile
def u (s : String) : CpInfo := .utf8 (stringToUtf16 s)
/-- a pool by its gaps: so many unusable entries, then the entry; so many at the end -/
def gap : Nat → List CpInfo → List CpInfo
  | 0, r => r
  | n + 1, r => .unusable :: gap n r
def poolList (es : List (Nat × CpInfo)) (last : Nat) : List CpInfo := es.foldr (fun e r => gap e.1 (e.2 :: r)) (gap last [])
def pool (es : List (Nat × CpInfo)) (last : Nat) : Array CpInfo := ⟨poolList es last⟩
def fileOf (pool : Array CpInfo) (this : Nat) (attrs : Array Attribute := #[]) (ms : Array MethodInfo := #[]) (fl : Nat := 33) (sup : Nat := 0) (ifs : Array Nat := #[]) (fds : Array FieldInfo := #[]) : ClassFile where
  minorVersion := 0
  majorVersion := 65
  constantPool := pool
  accessFlags := fl
  thisClass := this
  superClass := sup
  interfaces := ifs
  fields := fds
  methods := ms
  attributes := attrs
def plain (name : String) (sup : Option ClassId) : Class where
  name := name
  kind := .ordinary
  loader := none
  accessFlags := 33
  super := sup
  interfaces := #[]
  cf := none
  fields := #[]
  methods := #[]
  instanceTypes := #[]
  staticTypes := #[]
  resolved := #[]
  callSites := []
  init := .initialized
  statics := none
  mirror := none

def pool0 : Array CpInfo := pool [(5, u "<init>"), (0, u "()V"), (1, .class_ 10), (1, u "java/lang/Object")] 113

def k0c0 : Code := { maxStack := 0, maxLocals := 1, code := object_method_1_code, exceptionTable := #[], attributes := #[] }
def k0m0 : Method := { name := "<init>", desc := "()V", sig := { parameters := [], returnType := none }, accessFlags := 1, code := some k0c0 }
/-- java/lang/Object -/
def k0 : Class := { plain "java/lang/Object" none with
  accessFlags := 33
  interfaces := #[]
  cf := some (fileOf pool0 8 #[] #[{ accessFlags := 1, nameIndex := 5, descriptorIndex := 6, attributes := #[] }] 33 0 #[] #[])
  fields := #[]
  methods := #[k0m0]
  instanceTypes := #[]
  staticTypes := #[]
  resolved := Array.replicate 124 none
  statics := none }

def pool1 : Array CpInfo := pool [(2, .class_ 4), (0, .nameAndType 5 6), (0, u "java/lang/Object"), (0, u "<init>"), (0, u "()V"), (0, .integer 2147483647), (0, .integer 65535), (0, .methodref 10 11), (0, .class_ 12), (0, .nameAndType 13 14), (0, u "java/lang/Math"), (0, u "min"), (0, u "(II)I"), (0, .methodref 16 17), (0, .class_ 18), (0, .nameAndType 19 20), (0, u "com/example/sealwire/sealwire/dtls/DatagramRecordsHasNextPinLaw"), (0, u "octet"), (0, u "(III)I"), (0, .class_ 22), (0, u "com/example/sealwire/sealwire/dtls/DatagramRecords"), (0, .methodref 21 3), (0, .methodref 21 25), (0, .nameAndType 26 27), (0, u "hasNext"), (0, u "()Z"), (0, .methodref 21 29), (0, .nameAndType 30 31), (0, u "take"), (0, u "([BI)V"), (0, .methodref 21 33), (0, .nameAndType 34 35), (0, u "next"), (0, u "([BII)I"), (3, u "law"), (0, u "(IIII)Z")] 4

def k1m0 : Method := { name := "<init>", desc := "()V", sig := { parameters := [], returnType := none }, accessFlags := 1, code := none }
def k1c1 : Code := { maxStack := 2, maxLocals := 3, code := method_2_code, exceptionTable := #[], attributes := #[] }
def k1m1 : Method := { name := "octet", desc := "(III)I", sig := { parameters := [.int, .int, .int], returnType := some .int }, accessFlags := 10, code := some k1c1 }
def k1c2 : Code := { maxStack := 4, maxLocals := 16, code := code, exceptionTable := #[], attributes := #[] }
def k1m2 : Method := { name := "law", desc := "(IIII)Z", sig := { parameters := [.int, .int, .int, .int], returnType := some .boolean }, accessFlags := 9, code := some k1c2 }
/-- com/example/sealwire/sealwire/dtls/DatagramRecordsHasNextPinLaw -/
def k1 : Class := { plain "com/example/sealwire/sealwire/dtls/DatagramRecordsHasNextPinLaw" (some 0) with
  accessFlags := 49
  interfaces := #[]
  cf := some (fileOf pool1 16 #[] #[{ accessFlags := 1, nameIndex := 5, descriptorIndex := 6, attributes := #[] }, { accessFlags := 10, nameIndex := 19, descriptorIndex := 20, attributes := #[] }, { accessFlags := 9, nameIndex := 39, descriptorIndex := 40, attributes := #[] }] 49 2 #[] #[])
  fields := #[]
  methods := #[k1m0, k1m1, k1m2]
  instanceTypes := #[]
  staticTypes := #[]
  resolved := Array.replicate 45 none
  statics := none }

def pool2 : Array CpInfo := pool [(1, .class_ 2), (0, u "com/example/sealwire/sealwire/dtls/DatagramRecords"), (0, .methodref 4 5), (0, .class_ 6), (0, .nameAndType 7 8), (0, u "java/lang/Object"), (0, u "<init>"), (0, u "()V"), (0, .fieldref 1 10), (0, .nameAndType 11 12), (0, u "next"), (0, u "I"), (0, .fieldref 1 14), (0, .nameAndType 15 12), (0, u "end"), (0, .fieldref 1 17), (0, .nameAndType 18 19), (0, u "datagram"), (0, u "[B"), (0, .methodref 21 22), (0, .class_ 23), (0, .nameAndType 24 25), (0, u "java/lang/Math"), (0, u "min"), (0, u "(II)I"), (0, .methodref 27 28), (0, .class_ 29), (0, .nameAndType 30 31), (0, u "java/lang/System"), (0, u "arraycopy"), (0, u "(Ljava/lang/Object;ILjava/lang/Object;II)V"), (0, u "HEADER_LENGTH"), (2, u "MAX_RECORD"), (1, u "LENGTH_OFFSET"), (3, u "hasNext"), (0, u "()Z"), (1, u "take"), (0, u "([BI)V"), (0, u "([BII)I")] 2

def k2c0 : Code := { maxStack := 1, maxLocals := 1, code := prog_10_method_1_code, exceptionTable := #[], attributes := #[] }
def k2m0 : Method := { name := "<init>", desc := "()V", sig := { parameters := [], returnType := none }, accessFlags := 0, code := some k2c0 }
def k2c1 : Code := { maxStack := 2, maxLocals := 1, code := prog_10_method_2_code, exceptionTable := #[], attributes := #[] }
def k2m1 : Method := { name := "hasNext", desc := "()Z", sig := { parameters := [], returnType := some .boolean }, accessFlags := 0, code := some k2c1 }
def k2c2 : Code := { maxStack := 2, maxLocals := 3, code := prog_10_method_3_code, exceptionTable := #[], attributes := #[] }
def k2m2 : Method := { name := "take", desc := "([BI)V", sig := { parameters := [(.array .byte), .int], returnType := none }, accessFlags := 0, code := some k2c2 }
def k2c3 : Code := { maxStack := 5, maxLocals := 7, code := prog_10_method_4_code, exceptionTable := #[], attributes := #[] }
def k2m3 : Method := { name := "next", desc := "([BII)I", sig := { parameters := [(.array .byte), .int, .int], returnType := some .int }, accessFlags := 0, code := some k2c3 }
/-- com/example/sealwire/sealwire/dtls/DatagramRecords -/
def k2 : Class := { plain "com/example/sealwire/sealwire/dtls/DatagramRecords" (some 0) with
  accessFlags := 48
  interfaces := #[]
  cf := some (fileOf pool2 1 #[] #[{ accessFlags := 0, nameIndex := 7, descriptorIndex := 8, attributes := #[] }, { accessFlags := 0, nameIndex := 41, descriptorIndex := 42, attributes := #[] }, { accessFlags := 0, nameIndex := 44, descriptorIndex := 45, attributes := #[] }, { accessFlags := 0, nameIndex := 11, descriptorIndex := 46, attributes := #[] }] 48 4 #[] #[{ accessFlags := 24, nameIndex := 32, descriptorIndex := 12, attributes := #[] }, { accessFlags := 24, nameIndex := 35, descriptorIndex := 12, attributes := #[] }, { accessFlags := 26, nameIndex := 37, descriptorIndex := 12, attributes := #[] }, { accessFlags := 2, nameIndex := 18, descriptorIndex := 19, attributes := #[] }, { accessFlags := 2, nameIndex := 11, descriptorIndex := 12, attributes := #[] }, { accessFlags := 2, nameIndex := 15, descriptorIndex := 12, attributes := #[] }])
  fields := #[{ name := "HEADER_LENGTH", type := .int, accessFlags := 24, slot := 0, constantValue := 0 }, { name := "MAX_RECORD", type := .int, accessFlags := 24, slot := 1, constantValue := 0 }, { name := "LENGTH_OFFSET", type := .int, accessFlags := 26, slot := 2, constantValue := 0 }, { name := "datagram", type := (.array .byte), accessFlags := 2, slot := 0, constantValue := 0 }, { name := "next", type := .int, accessFlags := 2, slot := 1, constantValue := 0 }, { name := "end", type := .int, accessFlags := 2, slot := 2, constantValue := 0 }]
  methods := #[k2m0, k2m1, k2m2, k2m3]
  instanceTypes := #[(.array .byte), .int, .int]
  staticTypes := #[.int, .int, .int]
  resolved := Array.replicate 49 none
  statics := none }

def pool3 : Array CpInfo := pool [(1, .class_ 2), (0, u "java/lang/Math"), (1, .class_ 6), (1, u "java/lang/Object"), (0, u "<init>"), (0, u "()V"), (89, .class_ 100), (1, u "java/lang/Math$RandomNumberGeneratorHolder"), (71, u "negativeZeroFloatBits"), (0, u "J"), (2, u "negativeZeroDoubleBits"), (24, u "min"), (43, u "$assertionsDisabled"), (0, u "Z"), (88, u "(II)I"), (2, u "twoToTheDoubleScaleDown"), (0, u "D"), (4, u "twoToTheDoubleScaleUp"), (9, u "E"), (3, u "PI"), (2, u "TAU"), (2, u "DEGREES_TO_RADIANS"), (0, u "RADIANS_TO_DEGREES")] 94

def k3m0 : Method := { name := "<init>", desc := "()V", sig := { parameters := [], returnType := none }, accessFlags := 2, code := none }
def k3c1 : Code := { maxStack := 2, maxLocals := 2, code := jdk_29_method_69_code, exceptionTable := #[], attributes := #[] }
def k3m1 : Method := { name := "min", desc := "(II)I", sig := { parameters := [.int, .int], returnType := some .int }, accessFlags := 9, code := some k3c1 }
/-- java/lang/Math -/
def k3 : Class := { plain "java/lang/Math" (some 0) with
  accessFlags := 49
  interfaces := #[]
  cf := some (fileOf pool3 1 #[.nestMembers #[98]] #[{ accessFlags := 2, nameIndex := 7, descriptorIndex := 8, attributes := #[] }, { accessFlags := 9, nameIndex := 201, descriptorIndex := 335, attributes := #[] }] 49 4 #[] #[{ accessFlags := 25, nameIndex := 354, descriptorIndex := 339, attributes := #[] }, { accessFlags := 25, nameIndex := 358, descriptorIndex := 339, attributes := #[] }, { accessFlags := 25, nameIndex := 361, descriptorIndex := 339, attributes := #[] }, { accessFlags := 26, nameIndex := 364, descriptorIndex := 339, attributes := #[] }, { accessFlags := 26, nameIndex := 365, descriptorIndex := 339, attributes := #[] }, { accessFlags := 26, nameIndex := 172, descriptorIndex := 173, attributes := #[] }, { accessFlags := 26, nameIndex := 176, descriptorIndex := 173, attributes := #[] }, { accessFlags := 8, nameIndex := 344, descriptorIndex := 339, attributes := #[] }, { accessFlags := 8, nameIndex := 338, descriptorIndex := 339, attributes := #[] }, { accessFlags := 4120, nameIndex := 245, descriptorIndex := 246, attributes := #[] }])
  fields := #[{ name := "E", type := .double, accessFlags := 25, slot := 0, constantValue := 0 }, { name := "PI", type := .double, accessFlags := 25, slot := 1, constantValue := 0 }, { name := "TAU", type := .double, accessFlags := 25, slot := 2, constantValue := 0 }, { name := "DEGREES_TO_RADIANS", type := .double, accessFlags := 26, slot := 3, constantValue := 0 }, { name := "RADIANS_TO_DEGREES", type := .double, accessFlags := 26, slot := 4, constantValue := 0 }, { name := "negativeZeroFloatBits", type := .long, accessFlags := 26, slot := 5, constantValue := 0 }, { name := "negativeZeroDoubleBits", type := .long, accessFlags := 26, slot := 6, constantValue := 0 }, { name := "twoToTheDoubleScaleUp", type := .double, accessFlags := 8, slot := 7, constantValue := 0 }, { name := "twoToTheDoubleScaleDown", type := .double, accessFlags := 8, slot := 8, constantValue := 0 }, { name := "$assertionsDisabled", type := .boolean, accessFlags := 4120, slot := 9, constantValue := 0 }]
  methods := #[k3m0, k3m1]
  instanceTypes := #[]
  staticTypes := #[.double, .double, .double, .double, .double, .long, .long, .double, .double, .boolean]
  resolved := Array.replicate 460 none
  statics := none }

def pool4 : Array CpInfo := pool [(2, .class_ 4), (1, u "java/lang/Object"), (0, u "<init>"), (0, u "()V"), (1, .class_ 10), (1, u "java/lang/System"), (0, u "allowSecurityManager"), (0, u "I"), (16, u "cons"), (0, u "Ljava/io/Console;"), (77, .class_ 110), (1, u "java/lang/System$CallersHolder"), (43, u "initialErrStream"), (0, u "Ljava/io/PrintStream;"), (19, u "security"), (0, u "Ljava/lang/SecurityManager;"), (31, .class_ 209), (0, u "java/lang/System$1"), (7, u "props"), (0, u "Ljava/util/Properties;"), (2, u "lineSeparator"), (0, u "Ljava/lang/String;"), (96, .class_ 321), (1, u "java/lang/System$LoggerFinder"), (5, .class_ 328), (0, u "java/lang/System$Logger"), (67, u "err"), (2, u "out"), (91, u "notSupportedJnuEncoding"), (15, u "in"), (17, u "initialIn"), (0, u "Ljava/io/InputStream;"), (35, u "bootLayer"), (0, u "Ljava/lang/ModuleLayer;"), (99, .class_ 664), (0, u "java/lang/System$2"), (9, u "NEVER"), (2, u "MAYBE"), (49, u "arraycopy"), (0, u "(Ljava/lang/Object;ILjava/lang/Object;II)V"), (72, .class_ 802), (0, u "java/lang/System$Logger$Level")] 31

def k4m0 : Method := { name := "<init>", desc := "()V", sig := { parameters := [], returnType := none }, accessFlags := 2, code := none }
def k4m1 : Method := { name := "arraycopy", desc := "(Ljava/lang/Object;ILjava/lang/Object;II)V", sig := { parameters := [(.object "java/lang/Object"), .int, (.object "java/lang/Object"), .int, .int], returnType := none }, accessFlags := 265, code := none }
/-- java/lang/System -/
def k4 : Class := { plain "java/lang/System" (some 0) with
  accessFlags := 49
  interfaces := #[]
  cf := some (fileOf pool4 8 #[.nestMembers #[319, 327, 801, 108, 663, 208]] #[{ accessFlags := 2, nameIndex := 5, descriptorIndex := 6, attributes := #[] }, { accessFlags := 265, nameIndex := 727, descriptorIndex := 728, attributes := #[] }] 49 2 #[] #[{ accessFlags := 25, nameIndex := 507, descriptorIndex := 526, attributes := #[] }, { accessFlags := 25, nameIndex := 399, descriptorIndex := 155, attributes := #[] }, { accessFlags := 25, nameIndex := 396, descriptorIndex := 155, attributes := #[] }, { accessFlags := 10, nameIndex := 525, descriptorIndex := 526, attributes := #[] }, { accessFlags := 26, nameIndex := 674, descriptorIndex := 12, attributes := #[] }, { accessFlags := 26, nameIndex := 677, descriptorIndex := 12, attributes := #[] }, { accessFlags := 10, nameIndex := 11, descriptorIndex := 12, attributes := #[] }, { accessFlags := 74, nameIndex := 175, descriptorIndex := 176, attributes := #[] }, { accessFlags := 10, nameIndex := 491, descriptorIndex := 222, attributes := #[] }, { accessFlags := 74, nameIndex := 29, descriptorIndex := 30, attributes := #[] }, { accessFlags := 74, nameIndex := 154, descriptorIndex := 155, attributes := #[] }, { accessFlags := 10, nameIndex := 217, descriptorIndex := 218, attributes := #[] }, { accessFlags := 10, nameIndex := 221, descriptorIndex := 222, attributes := #[] }, { accessFlags := 8, nameIndex := 562, descriptorIndex := 563, attributes := #[] }])
  fields := #[{ name := "in", type := (.object "java/io/InputStream"), accessFlags := 25, slot := 0, constantValue := 0 }, { name := "out", type := (.object "java/io/PrintStream"), accessFlags := 25, slot := 1, constantValue := 0 }, { name := "err", type := (.object "java/io/PrintStream"), accessFlags := 25, slot := 2, constantValue := 0 }, { name := "initialIn", type := (.object "java/io/InputStream"), accessFlags := 10, slot := 3, constantValue := 0 }, { name := "NEVER", type := .int, accessFlags := 26, slot := 4, constantValue := 0 }, { name := "MAYBE", type := .int, accessFlags := 26, slot := 5, constantValue := 0 }, { name := "allowSecurityManager", type := .int, accessFlags := 10, slot := 6, constantValue := 0 }, { name := "security", type := (.object "java/lang/SecurityManager"), accessFlags := 74, slot := 7, constantValue := 0 }, { name := "notSupportedJnuEncoding", type := (.object "java/lang/String"), accessFlags := 10, slot := 8, constantValue := 0 }, { name := "cons", type := (.object "java/io/Console"), accessFlags := 74, slot := 9, constantValue := 0 }, { name := "initialErrStream", type := (.object "java/io/PrintStream"), accessFlags := 74, slot := 10, constantValue := 0 }, { name := "props", type := (.object "java/util/Properties"), accessFlags := 10, slot := 11, constantValue := 0 }, { name := "lineSeparator", type := (.object "java/lang/String"), accessFlags := 10, slot := 12, constantValue := 0 }, { name := "bootLayer", type := (.object "java/lang/ModuleLayer"), accessFlags := 8, slot := 13, constantValue := 0 }]
  methods := #[k4m0, k4m1]
  instanceTypes := #[]
  staticTypes := #[(.object "java/io/InputStream"), (.object "java/io/PrintStream"), (.object "java/io/PrintStream"), (.object "java/io/InputStream"), .int, .int, .int, (.object "java/lang/SecurityManager"), (.object "java/lang/String"), (.object "java/io/Console"), (.object "java/io/PrintStream"), (.object "java/util/Properties"), (.object "java/lang/String"), (.object "java/lang/ModuleLayer")]
  resolved := Array.replicate 834 none
  statics := none }

def pool5 : Array CpInfo := pool [(1, u "java/lang/Cloneable"), (0, .class_ 1), (0, u "java/lang/Object"), (0, .class_ 3)] 3

/-- java/lang/Cloneable -/
def k5 : Class := { plain "java/lang/Cloneable" (some 0) with
  accessFlags := 1537
  interfaces := #[]
  cf := some (fileOf pool5 2 #[] #[] 1537 4 #[] #[])
  fields := #[]
  methods := #[]
  instanceTypes := #[]
  staticTypes := #[]
  resolved := Array.replicate 8 none
  statics := none }

def pool6 : Array CpInfo := pool [(1, u "java/io/Serializable"), (0, .class_ 1), (0, u "java/lang/Object"), (0, .class_ 3)] 3

/-- java/io/Serializable -/
def k6 : Class := { plain "java/io/Serializable" (some 0) with
  accessFlags := 1537
  interfaces := #[]
  cf := some (fileOf pool6 2 #[] #[] 1537 4 #[] #[])
  fields := #[]
  methods := #[]
  instanceTypes := #[]
  staticTypes := #[]
  resolved := Array.replicate 8 none
  statics := none }

/-- the primitive byte -/
def k7 : Class := { plain "byte" none with kind := .primitive 'B', accessFlags := 0x411 }
/-- [B -/
def k8 : Class := { plain "[B" (some 0) with kind := .array 7 .byte, interfaces := #[5, 6], accessFlags := 1041 }

/-- the primitive int -/
def k9 : Class := { plain "int" none with kind := .primitive 'I', accessFlags := 0x411 }
/-- [I -/
def k10 : Class := { plain "[I" (some 0) with kind := .array 9 .int, interfaces := #[5, 6], accessFlags := 1041 }

def heap : Heap := #[]
def classes : Array Class := #[k0, k1, k2, k3, k4, k5, k6, k7, k8, k9, k10]
def interned : List (Array UInt16 × Addr) := []
def slotsUsed : Nat := 0
def theMethod : MethodId := ⟨1, 2⟩
def args0 : Array Value := #[.int 5, .int 5, .int 5, .int 5]
def aboutOver (below : List Frame) : State where
  vm := { classes := classes, interned := interned.toArray }
  heap := heap
  slotsUsed := slotsUsed
  threads := #[{ frames := .invoking theMethod args0 :: below }]
def below0 : List Frame := [.native { method := ⟨0, 0⟩, args := #[] }]
def about1 : State := aboutOver below0
def p0 : Program := .bare "" "" ""
def e0 : Env := launch0.env 0 0 0
theorem w_frames : about1.frames = Frame.invoking theMethod args0 :: below0 := rfl
set_option maxRecDepth 65536 in
theorem w_args : argsFit about1.vm theMethod args0 = true := by decide +kernel
set_option maxRecDepth 65536 in
theorem w_heap : heapFits about1 = true := by decide +kernel
set_option maxRecDepth 65536 in
theorem w_runnable : about1.curStatus? = some .runnable := by decide +kernel
set_option maxRecDepth 65536 in
theorem w_alone : about1.alone = true := by decide +kernel
set_option maxRecDepth 65536 in
theorem w_named : about1.methodNamed? x = some theMethod := by decide +kernel
set_option maxRecDepth 65536 in
theorem w_hears : about1.hears theMethod below0 = true := by decide +kernel
set_option maxRecDepth 65536 in
theorem w_ripe : about1.ripe theMethod args0 below0 = true := by decide +kernel
theorem w_running : about1.status = .running := rfl
set_option maxRecDepth 65536 in
theorem w_room : about1.hasRoom e0.platform room_1 = true :=
  launch0.hasRoom_least _ room_1 (by decide +kernel) (by decide +kernel) (by decide +kernel) (by decide +kernel) (by decide +kernel) (by decide +kernel)
theorem allAtoms_all (ts : List Jvm.Cond) (a : Array Jvm.Value) (st : Jvm.State) : (allAtoms ts).before a st = ts.all (fun c => c.before a st) := by
  induction ts with
  | nil => rfl
  | cons c t ih =>
    show (Jvm.Cond.and c (allAtoms t)).before a st = _
    rw [Jvm.Cond.before_and, ih, List.all_cons]
def words1 : List Jvm.Cond := Jvm.Cond.code x code maxLocals ret :: tables_1
/-- a 'code' word, met by the world's own term for the bytes: nothing is compared byte by byte -/
theorem code_word {y : MethodName} {bytes : ByteArray} {mx : Nat} {rt : Option FieldType} {a : Array Value} {s : State} {m : MethodId} {meth : Method} {c : Code} (h1 : s.methodNamed? y = some m) (h2 : s.vm.method? m = some meth) (h3 : meth.code = some c) (h4 : c.code = bytes)
    (h5 : (c.maxLocals == mx && c.exceptionTable.isEmpty && decide (c.maxStack ≤ mostOperands) && decide (meth.sig.returnType = rt) && !meth.locks && decide (parseMethodDescriptor y.desc = some meth.sig)) = true) : (Jvm.Cond.code y bytes mx rt).before a s = true := by
  simp only [Bool.and_eq_true, beq_iff_eq, Bool.not_eq_true', decide_eq_true_eq] at h5
  obtain ⟨⟨⟨⟨⟨g1, g2⟩, g3⟩, g4⟩, g5⟩, g6⟩ := h5
  simp [Cond.before, Cond.holds, Cond.value, h1, h2, h3, h4, g1, g2, g3, g4, g5, g6]
def isCode : Jvm.Cond → Bool
  | .code _ _ _ _ => true
  | _ => false
theorem all_split {L : List Jvm.Cond} {P : Jvm.Cond → Bool} (h1 : L.all (fun c => isCode c || P c) = true) (h2 : ∀ c ∈ L.filter isCode, P c = true) : L.all P = true := by
  refine List.all_eq_true.mpr fun c hc => ?_
  have h := List.all_eq_true.mp h1 c hc
  rcases Bool.eq_false_or_eq_true (isCode c) with hi | hi
  · exact h2 c (List.mem_filter.mpr ⟨hc, hi⟩)
  · simpa [hi] using h
set_option maxRecDepth 65536 in
theorem w_c0 : (Jvm.Cond.code x code maxLocals ret).before args0 about1 = true := code_word (m := ⟨1, 2⟩) (meth := k1m2) (c := k1c2) (by decide +kernel) rfl rfl rfl (by decide +kernel)
set_option maxRecDepth 65536 in
theorem w_c1 : (Jvm.Cond.code ({ cls := "com/example/sealwire/sealwire/dtls/DatagramRecords", name := "<init>", desc := "()V" } : Jvm.MethodName) prog_10_method_1_code (1 : Nat) (Option.none : Option Jvm.ClassFile.FieldType)).before args0 about1 = true := code_word (m := ⟨2, 0⟩) (meth := k2m0) (c := k2c0) (by decide +kernel) rfl rfl rfl (by decide +kernel)
set_option maxRecDepth 65536 in
theorem w_c2 : (Jvm.Cond.code ({ cls := "java/lang/Object", name := "<init>", desc := "()V" } : Jvm.MethodName) object_method_1_code (1 : Nat) (Option.none : Option Jvm.ClassFile.FieldType)).before args0 about1 = true := code_word (m := ⟨0, 0⟩) (meth := k0m0) (c := k0c0) (by decide +kernel) rfl rfl rfl (by decide +kernel)
set_option maxRecDepth 65536 in
theorem w_c3 : (Jvm.Cond.code ({ cls := "com/example/sealwire/sealwire/dtls/DatagramRecords", name := "hasNext", desc := "()Z" } : Jvm.MethodName) prog_10_method_2_code (1 : Nat) (Option.some Jvm.ClassFile.FieldType.boolean)).before args0 about1 = true := code_word (m := ⟨2, 1⟩) (meth := k2m1) (c := k2c1) (by decide +kernel) rfl rfl rfl (by decide +kernel)
set_option maxRecDepth 65536 in
theorem w_c4 : (Jvm.Cond.code ({ cls := "com/example/sealwire/sealwire/dtls/DatagramRecords", name := "take", desc := "([BI)V" } : Jvm.MethodName) prog_10_method_3_code (3 : Nat) (Option.none : Option Jvm.ClassFile.FieldType)).before args0 about1 = true := code_word (m := ⟨2, 2⟩) (meth := k2m2) (c := k2c2) (by decide +kernel) rfl rfl rfl (by decide +kernel)
set_option maxRecDepth 65536 in
theorem w_c5 : (Jvm.Cond.code ({ cls := "com/example/sealwire/sealwire/dtls/DatagramRecords", name := "next", desc := "([BII)I" } : Jvm.MethodName) prog_10_method_4_code (7 : Nat) (Option.some Jvm.ClassFile.FieldType.int)).before args0 about1 = true := code_word (m := ⟨2, 3⟩) (meth := k2m3) (c := k2c3) (by decide +kernel) rfl rfl rfl (by decide +kernel)
set_option maxRecDepth 65536 in
theorem w_c6 : (Jvm.Cond.code ({ cls := "java/lang/Math", name := "min", desc := "(II)I" } : Jvm.MethodName) jdk_29_method_69_code (2 : Nat) (Option.some Jvm.ClassFile.FieldType.int)).before args0 about1 = true := code_word (m := ⟨3, 1⟩) (meth := k3m1) (c := k3c1) (by decide +kernel) rfl rfl rfl (by decide +kernel)
set_option maxRecDepth 65536 in
theorem w_c7 : (Jvm.Cond.code ({ cls := "com/example/sealwire/sealwire/dtls/DatagramRecordsHasNextPinLaw", name := "octet", desc := "(III)I" } : Jvm.MethodName) method_2_code (3 : Nat) (Option.some Jvm.ClassFile.FieldType.int)).before args0 about1 = true := code_word (m := ⟨1, 1⟩) (meth := k1m1) (c := k1c1) (by decide +kernel) rfl rfl rfl (by decide +kernel)
def codes1 : List Jvm.Cond := [Jvm.Cond.code x code maxLocals ret, Jvm.Cond.code ({ cls := "com/example/sealwire/sealwire/dtls/DatagramRecords", name := "<init>", desc := "()V" } : Jvm.MethodName) prog_10_method_1_code (1 : Nat) (Option.none : Option Jvm.ClassFile.FieldType), Jvm.Cond.code ({ cls := "java/lang/Object", name := "<init>", desc := "()V" } : Jvm.MethodName) object_method_1_code (1 : Nat) (Option.none : Option Jvm.ClassFile.FieldType), Jvm.Cond.code ({ cls := "com/example/sealwire/sealwire/dtls/DatagramRecords", name := "hasNext", desc := "()Z" } : Jvm.MethodName) prog_10_method_2_code (1 : Nat) (Option.some Jvm.ClassFile.FieldType.boolean), Jvm.Cond.code ({ cls := "com/example/sealwire/sealwire/dtls/DatagramRecords", name := "take", desc := "([BI)V" } : Jvm.MethodName) prog_10_method_3_code (3 : Nat) (Option.none : Option Jvm.ClassFile.FieldType), Jvm.Cond.code ({ cls := "com/example/sealwire/sealwire/dtls/DatagramRecords", name := "next", desc := "([BII)I" } : Jvm.MethodName) prog_10_method_4_code (7 : Nat) (Option.some Jvm.ClassFile.FieldType.int), Jvm.Cond.code ({ cls := "java/lang/Math", name := "min", desc := "(II)I" } : Jvm.MethodName) jdk_29_method_69_code (2 : Nat) (Option.some Jvm.ClassFile.FieldType.int), Jvm.Cond.code ({ cls := "com/example/sealwire/sealwire/dtls/DatagramRecordsHasNextPinLaw", name := "octet", desc := "(III)I" } : Jvm.MethodName) method_2_code (3 : Nat) (Option.some Jvm.ClassFile.FieldType.int)]
set_option maxRecDepth 65536 in
theorem codes_eq : words1.filter isCode = codes1 := rfl
theorem w_codes : ∀ c ∈ words1.filter isCode, c.before args0 about1 = true := by
  rw [codes_eq]
  intro c hc
  simp only [codes1, List.mem_cons, List.not_mem_nil, or_false] at hc
  rcases hc with rfl | rfl | rfl | rfl | rfl | rfl | rfl | rfl
  · exact w_c0
  · exact w_c1
  · exact w_c2
  · exact w_c3
  · exact w_c4
  · exact w_c5
  · exact w_c6
  · exact w_c7
set_option maxRecDepth 65536 in
theorem w_t1 : (words1.take 24).all (fun c => isCode c || c.before args0 about1) = true := by decide +kernel
set_option maxRecDepth 65536 in
theorem w_t2 : (words1.drop 24).all (fun c => isCode c || c.before args0 about1) = true := by decide +kernel
theorem w_tables : (allAtoms (Jvm.Cond.code x code maxLocals ret :: tables_1)).before args0 about1 = true := by
  rw [allAtoms_all]
  show words1.all (fun c => c.before args0 about1) = true
  refine all_split ?_ w_codes
  rw [← List.take_append_drop 24 words1, List.all_append, w_t1, w_t2]
  rfl
set_option maxRecDepth 65536 in
theorem w_case : (Jvm.Cond.and given_1 narrow_1).before args0 about1 = true := by decide +kernel
theorem w_applies : (headSpec (Jvm.Cond.code x code maxLocals ret :: tables_1) room_1).applies x e0.platform about1 = true :=
  (Spec.applies_iff w_frames).mpr ⟨w_running, w_runnable, w_alone, w_named, w_hears, w_ripe, w_room, w_tables⟩
theorem atStart : AtStart classFile x code maxLocals ret World_1 tables_1 room_1 Calls_1 rest_1 Pre_1 launch0 p0 e0 about1 theMethod args0 below0 :=
  ⟨lists_1, trivial, launch0.admits_env _ _ _, launch0.least_env, fairChoices_fair.cas, fairChoices_fair.clock, w_frames, w_args, w_heap, w_applies, trivial, trivial, w_case⟩
end start1
theorem witness_1 : WitnessClaimed_1 := ⟨start1.p0, start1.e0, start1.about1, start1.theMethod, start1.args0, start1.below0, start1.atStart⟩
end Jvm.Pilot.@@N@@
