import JvmDerived
import JvmDerived.Pilot.@@N@@Statement
import JvmDerived.Pilot.@@N@@Code
set_option linter.unusedVariables false
set_option linter.unusedSimpArgs false
namespace Jvm.OwnKit
open Sem ClassFile Op Lib Jvm.Stand Jvm.Free Jvm.LawKit Jvm.RoadKit
/-! my own layer: an abstract heap of the objects and arrays that the law makes, and a run that goes on to its end -/
abbrev AH : Type := List (Nat × List Value)
abbrev Dic : Type := Nat → String × List (String × String × String)
def lf (n0 : Nat) : Value → Value
  | .ref i => .ref (n0 + i)
  | v => v
def aty : Nat → FieldType
  | 0 => .int
  | 1 => .char
  | 2 => .byte
  | 3 => .long
  | 4 => .boolean
  | _ => .short
def asI : Option Value → Option Int32
  | some (.int x) => some x
  | _ => none
def asJ : Option Value → Option Int64
  | some (.long x) => some x
  | _ => none
def asR : Option Value → Option Nat
  | some (.ref x) => some x
  | _ => none
theorem asI_s {o : Option Value} {x : Int32} (h : asI o = some x) : o = some (.int x) := by
  unfold asI at h; split at h <;> simp_all
theorem asJ_s {o : Option Value} {x : Int64} (h : asJ o = some x) : o = some (.long x) := by
  unfold asJ at h; split at h <;> simp_all
theorem asR_s {o : Option Value} {x : Nat} (h : asR o = some x) : o = some (.ref x) := by
  unfold asR at h; split at h <;> simp_all
/-- a field, a component: read, written -/
def h_fget (A : AH) (t a k : Nat) : Option Value := match A[a]? with
  | some (t', vs) => if t' = t then vs[k]? else none
  | none => none
def h_fset (A : AH) (t a k : Nat) (v : Value) : Option AH := match A[a]? with
  | some (t', vs) => if t' = t ∧ k < vs.length then some (A.set a (t', vs.set k v)) else none
  | none => none
def h_aget (A : AH) (t a : Nat) (j : Int32) : Option Value := if j < 0 then none else h_fget A t a j.toNatClampNeg
def h_aset (A : AH) (t a : Nat) (j : Int32) (v : Value) : Option AH := if j < 0 then none else h_fset A t a j.toNatClampNeg v
def h_alen (A : AH) (t a : Nat) : Option Int32 := match A[a]? with
  | some (t', vs) => if t' = t then some vs.length.toInt32 else none
  | none => none
def h_onew (A : AH) (t : Nat) (ds : List Value) : Option (Nat × AH) := some (A.length, A ++ [(t, ds)])
def h_anew (A : AH) (t cap : Nat) (n : Int32) (d : Value) : Option (Nat × AH) := if n < 0 ∨ cap < n.toNatClampNeg then none else some (A.length, A ++ [(t, List.replicate n.toNatClampNeg d)])
/-- System.arraycopy between two arrays of one primitive kind -/
def h_acp (A : AH) (t a b : Nat) (sp dp n : Int32) : Option AH := match A[a]?, A[b]? with
  | some (t1, vs), some (t2, vd) => if t1 = t ∧ t2 = t ∧ ¬ sp < 0 ∧ ¬ dp < 0 ∧ ¬ n < 0 ∧ sp.toNatClampNeg + n.toNatClampNeg ≤ vs.length ∧ dp.toNatClampNeg + n.toNatClampNeg ≤ vd.length then some (A.set b (t, vd.take dp.toNatClampNeg ++ (vs.drop sp.toNatClampNeg).take n.toNatClampNeg ++ vd.drop (dp.toNatClampNeg + n.toNatClampNeg))) else none
  | _, _ => none
def h_isA (A : AH) (t a : Nat) : Option Unit := match A[a]? with
  | some (t', _) => if t' = t then some () else none
  | none => none
/-- what the heap holds of them -/
def OKa (Z : State) (h : Heap) (a : Addr) (ty : FieldType) (vs : List Value) : Prop := ∃ cl : Cell, Arr Z h a cl ty ∧ cl.slots.toList = vs ∧ vs.length < 2 ^ 31 ∧ ∀ v ∈ vs, fits ty v = true
def OKo (Z : State) (h : Heap) (a : Addr) (C : String) (L : List (String × String × String)) (vs : List Value) : Prop := Exa Z h a C ∧ ∀ (k : Nat) (O n d : String) (v : Value), L[k]? = some (O, n, d) → vs[k]? = some v → Fld Z h a O n d v
def OKx (D : Dic) (Z : State) (h : Heap) (a : Addr) (t : Nat) (vs : List Value) : Prop := (t < 10 → OKa Z h a (aty t) vs) ∧ (10 ≤ t → OKo Z h a (D t).1 (D t).2 vs)
def Rep (D : Dic) (Z : State) (n0 : Nat) (h : Heap) (A : AH) : Prop := h.size = n0 + A.length ∧ ∀ (i t : Nat) (vs : List Value), A[i]? = some (t, vs) → OKx D Z h (n0 + i) t (vs.map (lf n0))
def Sep (Z : State) (L : List (String × String × String)) : Prop := ∀ (k k' : Nat) (O n d O' n' d' : String), L[k]? = some (O, n, d) → L[k']? = some (O', n', d') → k ≠ k' → Jvm.RoadKit.slotOf Z O n d ≠ Jvm.RoadKit.slotOf Z O' n' d'
theorem Sep.nil {Z : State} : Sep Z [] := fun k k' O n d O' n' d' h => by simp at h
theorem sep_of {Z : State} {a0 : Array Value} {C : String} {L : List (String × String × String)} (hl : ∀ x ∈ L, Laid Z a0 C x.1 x.2.1 x.2.2 ∧ (parseFieldDescriptor x.2.2).isSome = true) (hn : (L.map fun x => x.2.1).Nodup) : Sep Z L := by
  intro k k' O n d O' n' d' h h' ne
  obtain ⟨l1, p1⟩ := hl _ (List.mem_of_getElem? h)
  obtain ⟨l2, p2⟩ := hl _ (List.mem_of_getElem? h')
  obtain ⟨t1, e1⟩ := Option.isSome_iff_exists.mp p1
  obtain ⟨t2, e2⟩ := Option.isSome_iff_exists.mp p2
  refine slot_ne l1 l2 ?_ e1 e2
  intro q
  obtain ⟨b1, g1⟩ := List.getElem?_eq_some_iff.mp h
  obtain ⟨b2, g2⟩ := List.getElem?_eq_some_iff.mp h'
  refine ne ((List.getElem_inj (xs := L.map fun x => x.2.1) (h₀ := by simpa using b1) (h₁ := by simpa using b2) hn).mp ?_)
  simp only [List.getElem_map, g1, g2]; exact q
section Facts
variable {D : Dic} {Z : State} {n0 : Nat} {h h' : Heap} {A A' : AH} {t a k : Nat} {v : Value}
theorem fget_s (hg : h_fget A t a k = some v) : ∃ vs, A[a]? = some (t, vs) ∧ vs[k]? = some v := by
  unfold h_fget at hg; split at hg
  · rename_i t' vs e
    split at hg
    · rename_i q; subst q; exact ⟨vs, e, hg⟩
    · cases hg
  · cases hg
theorem fset_s (hg : h_fset A t a k v = some A') : ∃ vs, A[a]? = some (t, vs) ∧ k < vs.length ∧ A' = A.set a (t, vs.set k v) := by
  unfold h_fset at hg; split at hg
  · rename_i t' vs e
    split at hg
    · rename_i q; obtain ⟨rfl, q⟩ := q; exact ⟨vs, e, q, (Option.some.inj hg).symm⟩
    · cases hg
  · cases hg
theorem aget_s {j : Int32} (hg : h_aget A t a j = some v) : ¬ j < 0 ∧ h_fget A t a j.toNatClampNeg = some v := by
  unfold h_aget at hg; split at hg
  · cases hg
  · exact ⟨by assumption, hg⟩
theorem aset_s {j : Int32} (hg : h_aset A t a j v = some A') : ¬ j < 0 ∧ h_fset A t a j.toNatClampNeg v = some A' := by
  unfold h_aset at hg; split at hg
  · cases hg
  · exact ⟨by assumption, hg⟩
theorem isA_s {u : Unit} (hg : h_isA A t a = some u) : ∃ vs, A[a]? = some (t, vs) := by
  unfold h_isA at hg; split at hg
  · rename_i t' vs e
    split at hg
    · rename_i q; subst q; exact ⟨vs, e⟩
    · cases hg
  · cases hg
theorem Rep.exa (RA : Rep D Z n0 h A) (ht : 10 ≤ t) {vs : List Value} (hA : A[a]? = some (t, vs)) : Exa Z h (n0 + a) (D t).1 := ((RA.2 a t vs hA).2 ht).1
theorem Rep.fld (RA : Rep D Z n0 h A) (ht : 10 ≤ t) (hg : h_fget A t a k = some v) {O n d : String} (hk : (D t).2[k]? = some (O, n, d)) : Fld Z h (n0 + a) O n d (lf n0 v) := by
  obtain ⟨vs, e, q⟩ := fget_s hg
  exact ((RA.2 a t vs e).2 ht).2 k O n d _ hk (by simp [q])
theorem Rep.arr (RA : Rep D Z n0 h A) (ht : t < 10) {vs : List Value} (hA : A[a]? = some (t, vs)) : ∃ cl : Cell, Arr Z h (n0 + a) cl (aty t) ∧ cl.slots.toList = vs.map (lf n0) ∧ vs.length < 2 ^ 31 ∧ ∀ v ∈ vs.map (lf n0), fits (aty t) v = true := by
  obtain ⟨cl, h1, h2, h3, h4⟩ := (RA.2 a t vs hA).1 ht
  exact ⟨cl, h1, h2, by simpa using h3, h4⟩
theorem Rep.at (RA : Rep D Z n0 h A) (ht : t < 10) {j : Int32} (hg : h_aget A t a j = some v) : ∃ cl : Cell, Arr Z h (n0 + a) cl (aty t) ∧ ¬ (j < 0 ∨ cl.slots.size ≤ j.toNatClampNeg) ∧ cl.slots[j.toNatClampNeg]? = some (lf n0 v) := by
  obtain ⟨hj, hg⟩ := aget_s hg
  obtain ⟨vs, e, q⟩ := fget_s hg
  obtain ⟨cl, h1, h2, -⟩ := RA.arr ht e
  have h4 : cl.slots[j.toNatClampNeg]? = some (lf n0 v) := by rw [← Array.getElem?_toList, h2]; simp [q]
  refine ⟨cl, h1, ?_, h4⟩
  rintro (c | c)
  · exact hj c
  · exact absurd (Array.getElem?_eq_some_iff.mp h4).1 (Nat.not_lt.mpr c)
theorem OKx.other {sl : Nat} {w : Value} {b : Addr} {vs : List Value} (X : OKx D Z h b t vs) (W : Wr h h' a sl w) (ne : b ≠ a) : OKx D Z h' b t vs := by
  refine ⟨fun q => ?_, fun q => ?_⟩
  · obtain ⟨cl, h1, h2⟩ := X.1 q; exact ⟨cl, h1.other W ne, h2⟩
  · obtain ⟨h1, h2⟩ := X.2 q; exact ⟨h1.wr W, fun k O n d v e1 e2 => (h2 k O n d v e1 e2).other W (Or.inl ne)⟩
theorem Rep.set (RA : Rep D Z n0 h A) {sl : Nat} {w : Value} {vs : List Value} (hl : a < A.length) (W : Wr h h' (n0 + a) sl w) (hN : OKx D Z h' (n0 + a) t (vs.map (lf n0))) : Rep D Z n0 h' (A.set a (t, vs)) := by
  refine ⟨by rw [W.size, RA.1, List.length_set], fun i t' vs' e => ?_⟩
  by_cases q : a = i
  · subst q
    rw [List.getElem?_set_self hl] at e
    obtain ⟨rfl, rfl⟩ := Prod.mk.inj (Option.some.inj e); exact hN
  · rw [List.getElem?_set_ne q] at e
    exact (RA.2 i t' vs' e).other W (fun z => q (Nat.add_left_cancel z).symm)
theorem Rep.wrF (sep : Sep Z (D t).2) (RA : Rep D Z n0 h A) (ht : 10 ≤ t) (hp : h_fset A t a k v = some A') {O n d : String} (hk : (D t).2[k]? = some (O, n, d)) (W : Wr h h' (n0 + a) (Jvm.RoadKit.slotOf Z O n d) (lf n0 v)) : Rep D Z n0 h' A' := by
  obtain ⟨vs, e, q, rfl⟩ := fset_s hp
  refine RA.set (List.getElem?_eq_some_iff.mp e).1 W ⟨fun z => absurd ht (by omega), fun _ => ?_⟩
  obtain ⟨h1, h2⟩ := (RA.2 a t vs e).2 ht
  refine ⟨h1.wr W, fun k' O' n' d' v' e1 e2 => ?_⟩
  rw [List.map_set] at e2
  by_cases c : k = k'
  · subst c
    rw [List.getElem?_set_self (by simpa using q)] at e2
    cases hk.symm.trans e1
    cases e2
    exact (h2 k O n d _ hk (List.getElem?_eq_getElem (by simpa using q))).same W
  · rw [List.getElem?_set_ne c] at e2
    exact (h2 k' O' n' d' v' e1 e2).other W (Or.inr (sep k' k O' n' d' O n d e1 hk (Ne.symm c)))
theorem Rep.wrA (RA : Rep D Z n0 h A) (ht : t < 10) {j : Int32} (hp : h_aset A t a j v = some A') (hft : fits (aty t) (lf n0 v) = true) (W : Wr h h' (n0 + a) j.toNatClampNeg (lf n0 v)) : Rep D Z n0 h' A' := by
  obtain ⟨-, hp⟩ := aset_s hp
  obtain ⟨vs, e, q, rfl⟩ := fset_s hp
  refine RA.set (List.getElem?_eq_some_iff.mp e).1 W ⟨fun z => ?_, fun z => absurd ht (by omega)⟩
  obtain ⟨cl, h1, h2, h3, h4⟩ := RA.arr ht e
  refine ⟨_, h1.same W, ?_, by simpa using h3, fun u hu => ?_⟩
  · show (cl.slots.setIfInBounds _ _).toList = _
    rw [Array.toList_setIfInBounds, h2, List.map_set]
  · rw [List.map_set] at hu
    rcases List.mem_or_eq_of_mem_set hu with q | q
    · exact h4 u q
    · rw [q]; exact hft
theorem Rep.into (RA : Rep D Z n0 h A) (ht : t < 10) {j : Int32} (hp : h_aset A t a j v = some A') : ∃ cl : Cell, Arr Z h (n0 + a) cl (aty t) ∧ ¬ (j < 0 ∨ cl.slots.size ≤ j.toNatClampNeg) := by
  obtain ⟨hj, hp⟩ := aset_s hp
  obtain ⟨vs, e, q, rfl⟩ := fset_s hp
  obtain ⟨cl, h1, h2, -⟩ := RA.arr ht e
  refine ⟨cl, h1, ?_⟩
  have : cl.slots.size = vs.length := by rw [← Array.length_toList, h2]; simp
  rintro (c | c)
  · exact hj c
  · omega
theorem OKx.ext {b : Addr} {vs : List Value} (X : OKx D Z h b t vs) (E : Ext h h') : OKx D Z h' b t vs := by
  refine ⟨fun q => ?_, fun q => ?_⟩
  · obtain ⟨cl, h1, h2⟩ := X.1 q; exact ⟨cl, h1.ext E, h2⟩
  · obtain ⟨h1, h2⟩ := X.2 q; exact ⟨h1.ext E, fun k O n d v e1 e2 => (h2 k O n d v e1 e2).ext E⟩
theorem ext_push (h : Heap) (cl : Cell) : Ext h (h.push cl) := ⟨by simp, fun a c e => by rw [Array.getElem?_push_lt (Array.getElem?_eq_some_iff.mp e).1]; exact (Array.getElem?_eq_getElem _).symm.trans e⟩
theorem Rep.push (RA : Rep D Z n0 h A) {cl : Cell} {vs : List Value} (hN : OKx D Z (h.push cl) h.size t (vs.map (lf n0))) : Rep D Z n0 (h.push cl) (A ++ [(t, vs)]) := by
  refine ⟨by rw [Array.size_push, RA.1, List.length_append]; rfl, fun i t' vs' e => ?_⟩
  by_cases q : i < A.length
  · rw [List.getElem?_append_left q] at e
    exact (RA.2 i t' vs' e).ext (ext_push h cl)
  · rw [List.getElem?_append_right (Nat.le_of_not_lt q)] at e
    have e0 : i - A.length = 0 := by
      have := (List.getElem?_eq_some_iff.mp e).1; simp at this; omega
    rw [e0] at e
    obtain ⟨rfl, rfl⟩ := Prod.mk.inj (Option.some.inj e)
    have : i = A.length := by omega
    have e2 : n0 + i = h.size := by rw [RA.1, this]
    rw [e2]; exact hN
end Facts
/-! a cell replaced -/
section Cells
variable {D : Dic} {Z : State} {n0 : Nat} {h h' : Heap} {A A' : AH} {t a k : Nat} {v : Value}
theorem OKx.at {b : Addr} {vs : List Value} (X : OKx D Z h b t vs) (e : h'[b]? = h[b]?) : OKx D Z h' b t vs := by
  refine ⟨fun q => ?_, fun q => ?_⟩
  · obtain ⟨cl, h1, h2⟩ := X.1 q; exact ⟨cl, ⟨e.trans h1.1, h1.2⟩, h2⟩
  · obtain ⟨⟨cell, kk, e1, e2⟩, h2⟩ := X.2 q
    refine ⟨⟨cell, kk, e.trans e1, e2⟩, fun j O n d v e3 e4 => ?_⟩
    obtain ⟨c2, cf, k2, i2, f2, g1, g2⟩ := h2 j O n d v e3 e4
    exact ⟨c2, cf, k2, i2, f2, e.trans g1, g2⟩
theorem Rep.cell (RA : Rep D Z n0 h A) {cl : Cell} {vs : List Value} (hl : a < A.length) (hN : OKx D Z (h.setIfInBounds (n0 + a) cl) (n0 + a) t (vs.map (lf n0))) : Rep D Z n0 (h.setIfInBounds (n0 + a) cl) (A.set a (t, vs)) := by
  refine ⟨by rw [Array.size_setIfInBounds, RA.1, List.length_set], fun i t' vs' e => ?_⟩
  by_cases q : a = i
  · subst q
    rw [List.getElem?_set_self hl] at e
    obtain ⟨rfl, rfl⟩ := Prod.mk.inj (Option.some.inj e); exact hN
  · rw [List.getElem?_set_ne q] at e
    exact (RA.2 i t' vs' e).at (Array.getElem?_setIfInBounds_ne (fun z => q (Nat.add_left_cancel z)))
end Cells
/-! reading and writing, in plain words -/
theorem eq64 {x y : Int} (h : (x - y) % 18446744073709551616 = 0) (x1 : -9223372036854775808 ≤ x) (x2 : x < 9223372036854775808) (y1 : -9223372036854775808 ≤ y) (y2 : y < 9223372036854775808) : x = y := by omega
theorem eq32 {x y : Int} (h : (x - y) % 4294967296 = 0) (x1 : -2147483648 ≤ x) (x2 : x < 2147483648) (y1 : -2147483648 ≤ y) (y2 : y < 2147483648) : x = y := by omega
theorem nar1 : nar .boolean (1 : Int32) = 1 := by decide
theorem nar0 : nar .boolean (0 : Int32) = 0 := by decide
theorem nclamp (j : Int32) : j.toNatClampNeg = j.toInt.toNat := rfl
theorem nneg {j : Int32} : ¬ j < 0 ↔ 0 ≤ j.toInt := by rw [Int32.lt_iff_toInt_lt]; show ¬ _ < (0 : Int) ↔ _; omega
theorem aset_ok {A : AH} {t a : Nat} {vs : List Value} {j : Int32} {v : Value} (hA : A[a]? = some (t, vs)) (h0 : 0 ≤ j.toInt) (h1 : j.toInt < vs.length) : h_aset A t a j v = some (A.set a (t, vs.set j.toInt.toNat v)) := by
  unfold h_aset; rw [if_neg (nneg.mpr h0)]; unfold h_fset; rw [hA]; simp only [nclamp]
  have : j.toInt.toNat < vs.length := by omega
  rw [if_pos ⟨trivial, this⟩]
theorem aget_ok {A : AH} {t a : Nat} {vs : List Value} {j : Int32} (hA : A[a]? = some (t, vs)) (h0 : 0 ≤ j.toInt) : h_aget A t a j = vs[j.toInt.toNat]? := by
  unfold h_aget; rw [if_neg (nneg.mpr h0)]; unfold h_fget; rw [hA]; simp only [nclamp, if_true]
theorem anew_ok {A : AH} {t cap : Nat} {n : Int32} {d : Value} (h0 : 0 ≤ n.toInt) (h1 : n.toInt ≤ cap) : h_anew A t cap n d = some (A.length, A ++ [(t, List.replicate n.toInt.toNat d)]) := by
  unfold h_anew; rw [nclamp, if_neg (by rintro (c | c); exact nneg.mpr h0 c; omega)]
theorem aset1 {t : Nat} {vs : List Value} {j : Int32} {v : Value} (h0 : 0 ≤ j.toInt) (h1 : j.toInt < vs.length) : h_aset [(t, vs)] t 0 j v = some [(t, vs.set j.toInt.toNat v)] := aset_ok rfl h0 h1
theorem aget1 {t : Nat} {vs : List Value} {j : Int32} (h0 : 0 ≤ j.toInt) : h_aget [(t, vs)] t 0 j = vs[j.toInt.toNat]? := aget_ok rfl h0
/-! ### a run that goes on to its end -/
def Go (p : Program) (e : Env) (below : List Frame) (S : State) (G : Outcome → State → Prop) : Prop := ∃ t o, Steps p.tables e below S t ∧ t.status = .running ∧ Ended t below o ∧ G o t
def QR (D : Dic) (Z : State) (n0 : Nat) (r : Option Value) (A : AH) (v : Option Value) (h : Heap) (L : List Loc) : Prop := v = r ∧ Fr n0 L ∧ Rep D Z n0 h A
def Fini (D : Dic) (Z : State) (n0 : Nat) (s : State) (R : Room) (r : Option Value) (A : AH) : Outcome → State → Prop := fun o t => ∃ v L, o = .returned v ∧ QR D Z n0 r A v t.heap L ∧ FrameEnd s o t L R.cells R.slots
def On (p : Program) (l : Launch) (e : Env) (R : Room) (s : State) (m : MethodId) (args : Array Value) (below : List Frame) (meth : Method) (c : Code) (D : Dic) (Z : State) (n0 : Nat) (T : State) (A : AH) (cells slots : Nat) : Prop :=
  ∃ locs, Stand p l e R s m args below meth c T locs cells slots ∧ Fr n0 locs ∧ Rep D Z n0 T.heap A
def Cx (p : Program) (l : Launch) (e : Env) (R : Room) (s : State) (m : MethodId) (meth : Method) (c : Code) (Z : State) (a0 : Array Value) (W : List Jvm.Cond) (own nm : String) (bytes : ByteArray) (ml : Nat) (rt : Option FieldType) : Prop :=
  p.tables.exec = Jvm.exec ∧ Z.Warmed39 s.vm ∧ s.vm.findClass own = some m.cls ∧ c.code = bytes ∧ c.maxLocals = ml ∧ meth.sig.returnType = rt ∧ meth.locks = false ∧ meth.name = nm ∧ ∀ d ∈ W, d.before a0 Z = true
def Met (l : Launch) (D : Dic) (Z : State) (n0 : Nat) (y : MethodName) (bytes : ByteArray) (ml : Nat) (rt : Option FieldType) (R : Room) (as : List Value) (A : AH) (r : Option Value) (A' : AH) : Prop :=
  ∀ (ws : List Jvm.Cond) (h0 : Heap), Rep D Z n0 h0 A → MetFree l y (head1 (Jvm.Cond.code y bytes ml rt :: ws) R) (fun a U => a = as.toArray ∧ Z.Warmed39 U.vm ∧ U.heap = h0) (fun _ _ _ _ _ => True) (fun _ U o U' => ∃ v L, o = .returned v ∧ QR D Z n0 r A' v U'.heap L ∧ FrameEnd U o U' L R.cells R.slots)
section Walk
variable {p : Program} {l : Launch} {e : Env} {R : Room} {s : State} {m : MethodId} {args : Array Value} {below : List Frame} {meth : Method} {c : Code} {Z : State} {a0 : Array Value} {W : List Jvm.Cond} {own nm : String} {bytes : ByteArray} {ml : Nat} {rt : Option FieldType} {D : Dic} {n0 : Nat} {T : State} {A A' : AH} {cells slots : Nat} {G : Outcome → State → Prop} {pc : Nat} {Ls : Array Slot} {st : List Value}
theorem go {S S' : State} (h : ∀ t, Steps p.tables e below S' t → Steps p.tables e below S t) (k : Go p e below S' G) : Go p e below S G := by
  obtain ⟨t, o, h1, h2⟩ := k; exact ⟨t, o, h t h1, h2⟩
theorem On.here (X : On p l e R s m args below meth c D Z n0 T A cells slots) : At T m c below := by obtain ⟨_, X, -⟩ := X; exact X.here
theorem On.more {cells' slots' : Nat} (X : On p l e R s m args below meth c D Z n0 T A cells slots) (hc : cells ≤ cells') (hs : slots ≤ slots') : On p l e R s m args below meth c D Z n0 T A cells' slots' := by
  obtain ⟨locs, X, N⟩ := X; exact ⟨locs, X.more hc hs, N⟩
theorem wd {d : Jvm.Cond} (K : Cx p l e R s m meth c Z a0 W own nm bytes ml rt) {i : Nat} (h : W[i]? = some d) : d.before a0 Z = true := K.2.2.2.2.2.2.2.2 d (List.mem_of_getElem? h)
theorem dc (K : Cx p l e R s m meth c Z a0 W own nm bytes ml rt) {r : Except DecodeError (Instr × Nat)} (h : decode bytes pc = r) : decode c.code pc = r := K.2.2.2.1 ▸ h
theorem ldcI (K : Cx p l e R s m meth c Z a0 W own nm bytes ml rt) (X : On p l e R s m args below meth c D Z n0 T A cells slots) {i idx : Nat} {v : Int32} (w : W[i]? = some (.constant own idx v)) (hd : decode bytes pc = .ok (.ldc idx, 2))
    {pc' : Nat} (hp : pc + 2 = pc') (k : Go p e below (T.setTop (mkF m pc'  Ls (.int v :: st))) G) : Go p e below (T.setTop (mkF m pc Ls st)) G := by
  subst hp
  obtain ⟨locs, X, -⟩ := X
  exact go (X.ldcInt K.1 K.2.2.1 (mvT K.2.1 (wd K w)) (g := mkF m pc Ls st) rfl (dc K hd)) k
theorem ldcwI (K : Cx p l e R s m meth c Z a0 W own nm bytes ml rt) (X : On p l e R s m args below meth c D Z n0 T A cells slots) {i idx : Nat} {v : Int32} (w : W[i]? = some (.constant own idx v)) (hd : decode bytes pc = .ok (.ldc_w idx, 3))
    {pc' : Nat} (hp : pc + 3 = pc') (k : Go p e below (T.setTop (mkF m pc'  Ls (.int v :: st))) G) : Go p e below (T.setTop (mkF m pc Ls st)) G := by
  subst hp
  obtain ⟨locs, X, -⟩ := X
  exact go (X.ldcwInt K.1 K.2.2.1 (mvT K.2.1 (wd K w)) (g := mkF m pc Ls st) rfl (dc K hd)) k
theorem ldcL (K : Cx p l e R s m meth c Z a0 W own nm bytes ml rt) (X : On p l e R s m args below meth c D Z n0 T A cells slots) {i idx : Nat} {v : Int64} (w : W[i]? = some (.constantLong own idx v)) (hd : decode bytes pc = .ok (.ldc2_w idx, 3))
    {pc' : Nat} (hp : pc + 3 = pc') (k : Go p e below (T.setTop (mkF m pc'  Ls (.long v :: st))) G) : Go p e below (T.setTop (mkF m pc Ls st)) G := by
  subst hp
  obtain ⟨locs, X, -⟩ := X
  exact go (X.ldc2Long K.1 K.2.2.1 (mvT K.2.1 (wd K w)) (g := mkF m pc Ls st) rfl (dc K hd)) k
/-! the returns -/
theorem retV (K : Cx p l e R s m meth c Z a0 W own nm bytes ml none) (X : On p l e R s m args below meth c D Z n0 T A cells slots) (hc : cells ≤ R.cells) (hs : slots ≤ R.slots) (hd : decode bytes pc = .ok (.return_, 1)) :
    Go p e below (T.setTop (mkF m pc Ls [])) (Fini D Z n0 s R none A) := by
  obtain ⟨locs, X, N, RA⟩ := X
  obtain ⟨fs, hr, hrun, hended, hW, hsame⟩ := X.leave (v := none) (fun _ => rfl) K.2.2.2.2.2.2.1
  exact ⟨_, _, X.returnOut K.1 K.2.2.2.2.2.1 (dc K hd) hr, hrun, hended, none, locs, rfl, ⟨rfl, N, RA⟩, ⟨_, rfl⟩, hW, hsame.mono hc hs⟩
theorem retX {t : FieldType} {i : Instr} {w : Value} (K : Cx p l e R s m meth c Z a0 W own nm bytes ml (some t)) (X : On p l e R s m args below meth c D Z n0 T A cells slots) (hc : cells ≤ R.cells) (hs : slots ≤ R.slots) (hd : decode bytes pc = .ok (i, 1)) (hn : narrow t w = w)
    (hi : (i = .ireturn ∧ (t = .int ∨ t = .boolean ∨ t = .byte ∨ t = .char ∨ t = .short) ∧ ∃ z, w = .int z) ∨ (i = .lreturn ∧ t = .long ∧ ∃ z, w = .long z) ∨ (i = .dreturn ∧ t = .double ∧ ∃ z, w = .double z) ∨ (i = .freturn ∧ t = .float ∧ ∃ z, w = .float z) ∨ (i = .areturn ∧ t.isReference = true ∧ w.isRef = true)) :
    Go p e below (T.setTop (mkF m pc Ls (w :: st))) (Fini D Z n0 s R (some w) A) := by
  obtain ⟨locs, X, N, RA⟩ := X
  obtain ⟨fs, hr, hrun, hended, hW, hsame⟩ := X.leave (v := some w) (fun h => by rw [K.2.2.2.2.2.1] at h; cases h) K.2.2.2.2.2.2.1
  exact ⟨_, _, Jvm.RoadKit.retOut X K.1 K.2.2.2.2.2.1 hn hi (dc K hd) hr, hrun, hended, some w, locs, rfl, ⟨rfl, N, RA⟩, ⟨_, rfl⟩, hW, hsame.mono hc hs⟩
theorem retI {z : Int32} (K : Cx p l e R s m meth c Z a0 W own nm bytes ml (some .int)) (X : On p l e R s m args below meth c D Z n0 T A cells slots) (hc : cells ≤ R.cells) (hs : slots ≤ R.slots) (hd : decode bytes pc = .ok (.ireturn, 1)) :
    Go p e below (T.setTop (mkF m pc Ls (.int z :: st))) (Fini D Z n0 s R (some (.int z)) A) := retX K X hc hs hd rfl (Or.inl ⟨rfl, Or.inl rfl, z, rfl⟩)
theorem retJ {z : Int64} (K : Cx p l e R s m meth c Z a0 W own nm bytes ml (some .long)) (X : On p l e R s m args below meth c D Z n0 T A cells slots) (hc : cells ≤ R.cells) (hs : slots ≤ R.slots) (hd : decode bytes pc = .ok (.lreturn, 1)) :
    Go p e below (T.setTop (mkF m pc Ls (.long z :: st))) (Fini D Z n0 s R (some (.long z)) A) := retX K X hc hs hd rfl (Or.inr (Or.inl ⟨rfl, rfl, z, rfl⟩))
theorem retR {a : Addr} {t : FieldType} (K : Cx p l e R s m meth c Z a0 W own nm bytes ml (some t)) (ht : t.isReference = true) (hn : narrow t (.ref a) = .ref a) (X : On p l e R s m args below meth c D Z n0 T A cells slots) (hc : cells ≤ R.cells) (hs : slots ≤ R.slots) (hd : decode bytes pc = .ok (.areturn, 1)) :
    Go p e below (T.setTop (mkF m pc Ls (.ref a :: st))) (Fini D Z n0 s R (some (.ref a)) A) := retX K X hc hs hd hn (Or.inr (Or.inr (Or.inr (Or.inr ⟨rfl, ht, rfl⟩))))
theorem retB {z : Int32} {t : FieldType} (K : Cx p l e R s m meth c Z a0 W own nm bytes ml (some t)) (ht : t = .boolean ∨ t = .byte ∨ t = .char ∨ t = .short) (X : On p l e R s m args below meth c D Z n0 T A cells slots) (hc : cells ≤ R.cells) (hs : slots ≤ R.slots) (hd : decode bytes pc = .ok (.ireturn, 1)) :
    Go p e below (T.setTop (mkF m pc Ls (.int z :: st))) (Fini D Z n0 s R (some (.int (nar t z))) A) := by
  obtain ⟨locs, X, N, RA⟩ := X
  obtain ⟨fs, hr, hrun, hended, hW, hsame⟩ := X.leave (v := some (.int (nar t z))) (fun h => by rw [K.2.2.2.2.2.1] at h; cases h) K.2.2.2.2.2.2.1
  exact ⟨_, _, Jvm.RoadKit.retN X K.1 K.2.2.2.2.2.1 ht (dc K hd) hr, hrun, hended, some (.int (nar t z)), locs, rfl, ⟨rfl, N, RA⟩, ⟨_, rfl⟩, hW, hsame.mono hc hs⟩
/-! fields -/
theorem getf (K : Cx p l e R s m meth c Z a0 W own nm bytes ml rt) (X : On p l e R s m args below meth c D Z n0 T A cells slots) {i idx t f a : Nat} {O n d : String} {v : Value} (w : W[i]? = some (.fieldLink own idx O n d)) (hd : decode bytes pc = .ok (.getfield idx, 3))
    (ht : 10 ≤ t) (hk : (D t).2[f]? = some (O, n, d)) (hg : h_fget A t a f = some v)
    {pc' : Nat} (hp : pc + 3 = pc') (k : ∀ T', On p l e R s m args below meth c D Z n0 T' A cells slots → Go p e below (T'.setTop (mkF m pc'  Ls (lf n0 v :: st))) G) : Go p e below (T.setTop (mkF m pc Ls (.ref (n0 + a) :: st))) G := by
  subst hp
  obtain ⟨locs, X, N, RA⟩ := X
  obtain ⟨T', X', e', stp⟩ := getF X K.1 K.2.1 K.2.2.1 (host := "") (Or.inl (wd K w)) Via.refl rfl (RA.fld ht hg hk) (g := mkF m pc Ls (.ref (n0 + a) :: st)) rfl rfl (dc K hd)
  exact go stp (k T' ⟨locs, X', N, by rw [e']; exact RA⟩)
theorem getfI (K : Cx p l e R s m meth c Z a0 W own nm bytes ml rt) (X : On p l e R s m args below meth c D Z n0 T A cells slots) {i idx t f a : Nat} {O n d : String} {v : Int32} (w : W[i]? = some (.fieldLink own idx O n d)) (hd : decode bytes pc = .ok (.getfield idx, 3))
    (ht : 10 ≤ t) (hk : (D t).2[f]? = some (O, n, d)) (hg : asI (h_fget A t a f) = some v)
    {pc' : Nat} (hp : pc + 3 = pc') (k : ∀ T', On p l e R s m args below meth c D Z n0 T' A cells slots → Go p e below (T'.setTop (mkF m pc' Ls (.int v :: st))) G) : Go p e below (T.setTop (mkF m pc Ls (.ref (n0 + a) :: st))) G := getf K X w hd ht hk (asI_s hg) hp k
theorem getfJ (K : Cx p l e R s m meth c Z a0 W own nm bytes ml rt) (X : On p l e R s m args below meth c D Z n0 T A cells slots) {i idx t f a : Nat} {O n d : String} {v : Int64} (w : W[i]? = some (.fieldLink own idx O n d)) (hd : decode bytes pc = .ok (.getfield idx, 3))
    (ht : 10 ≤ t) (hk : (D t).2[f]? = some (O, n, d)) (hg : asJ (h_fget A t a f) = some v)
    {pc' : Nat} (hp : pc + 3 = pc') (k : ∀ T', On p l e R s m args below meth c D Z n0 T' A cells slots → Go p e below (T'.setTop (mkF m pc' Ls (.long v :: st))) G) : Go p e below (T.setTop (mkF m pc Ls (.ref (n0 + a) :: st))) G := getf K X w hd ht hk (asJ_s hg) hp k
theorem getfR (K : Cx p l e R s m meth c Z a0 W own nm bytes ml rt) (X : On p l e R s m args below meth c D Z n0 T A cells slots) {i idx t f a : Nat} {O n d : String} {v : Nat} (w : W[i]? = some (.fieldLink own idx O n d)) (hd : decode bytes pc = .ok (.getfield idx, 3))
    (ht : 10 ≤ t) (hk : (D t).2[f]? = some (O, n, d)) (hg : asR (h_fget A t a f) = some v)
    {pc' : Nat} (hp : pc + 3 = pc') (k : ∀ T', On p l e R s m args below meth c D Z n0 T' A cells slots → Go p e below (T'.setTop (mkF m pc' Ls (.ref (n0 + v) :: st))) G) : Go p e below (T.setTop (mkF m pc Ls (.ref (n0 + a) :: st))) G := getf K X w hd ht hk (asR_s hg) hp k
theorem putf (K : Cx p l e R s m meth c Z a0 W own nm bytes ml rt) (sep : ∀ t, Sep Z (D t).2) (X : On p l e R s m args below meth c D Z n0 T A cells slots) {i idx t f a kk i2 : Nat} {O n d : String} {va v : Value} {ty : FieldType} (w : W[i]? = some (.fieldLink own idx O n d)) (hd : decode bytes pc = .ok (.putfield idx, 3))
    (ht : 10 ≤ t) (hk : (D t).2[f]? = some (O, n, d)) (wl : (Jvm.Cond.lays (D t).1 O n d).before a0 Z = true ∨ ((Jvm.Cond.laysFinal (D t).1 O n d).before a0 Z = true ∧ own = O ∧ nm = "<init>")) (wi : W[i2]? = some (.instantiable (D t).1 kk))
    (hty : parseFieldDescriptor d = some ty) (hn : narrow ty v = lf n0 va) (hf : fits ty (lf n0 va) = true) (hp : h_fset A t a f va = some A')
    {pc' : Nat} (hp : pc + 3 = pc') (k : ∀ T', On p l e R s m args below meth c D Z n0 T' A' cells slots → Go p e below (T'.setTop (mkF m pc'  Ls st)) G) : Go p e below (T.setTop (mkF m pc Ls (v :: .ref (n0 + a) :: st))) G := by
  subst hp
  obtain ⟨locs, X, N, RA⟩ := X
  obtain ⟨vs, hA, hlt, -⟩ := fset_s hp
  have F := RA.fld ht (show h_fget A t a f = some vs[f] by simp [h_fget, hA]) hk
  obtain ⟨T', h', X', e', W', stp⟩ := putFN X K.1 K.2.1 K.2.2.1 (wd K w) Via.refl rfl F (RA.exa ht hA) (wl.imp id fun q => ⟨q.1, q.2.1, K.2.2.2.2.2.2.2.1.trans q.2.2⟩) (wd K wi) hty hn hf (g := mkF m pc Ls (v :: .ref (n0 + a) :: st)) rfl rfl (dc K hd)
  exact go stp (k T' ⟨_, X', Fr.snoc X' N (Nat.le_add_right _ _), by rw [e']; exact RA.wrF (sep t) ht hp hk W'⟩)
/-! new -/
theorem newo (K : Cx p l e R s m meth c Z a0 W own nm bytes ml rt) (X : On p l e R s m args below meth c D Z n0 T A cells slots) {i1 i2 i3 idx n t : Nat} {ds : List Value} (w1 : W[i1]? = some (.classLink own idx (D t).1)) (w2 : W[i2]? = some (.instantiable (D t).1 n)) (w3 : W[i3]? = some (.initialized (D t).1))
    (hd : decode bytes pc = .ok (.new idx, 3)) (hc : cells + 1 ≤ R.cells) (hs : slots + n ≤ R.slots) (ht : 10 ≤ t) (hds : ∀ (k : Nat) (O f d : String) (v : Value), (D t).2[k]? = some (O, f, d) → ds[k]? = some v → ∃ ty, parseFieldDescriptor d = some ty ∧ Laid Z a0 (D t).1 O f d ∧ lf n0 v = defaultValue ty)
    {q : Nat × AH} (hq : h_onew A t ds = some q)
    {pc' : Nat} (hp : pc + 3 = pc') (k : ∀ T', On p l e R s m args below meth c D Z n0 T' q.2 (cells + 1) (slots + n) → Go p e below (T'.setTop (mkF m pc'  Ls (.ref (n0 + q.1) :: st))) G) : Go p e below (T.setTop (mkF m pc Ls st)) G := by
  subst hp
  cases hq
  obtain ⟨locs, X, N, RA⟩ := X
  obtain ⟨vm', cC, kC, h1, h2, h3, h4, X', stp⟩ := X.newCold K.1 K.2.2.1 (mvT K.2.1 (wd K w1)) (mvT K.2.1 (wd K w2)) (mvT K.2.1 (wd K w3)) (g := mkF m pc Ls st) rfl (dc K hd) hc hs
  have hZ := K.2.1
  rw [hZ.alike.findClass] at h1
  obtain ⟨kZ, z1, -⟩ := Vm.findClass_spec h1
  obtain ⟨k', z2, z3⟩ := hZ.alike.2.2 _ _ z1
  cases h2.symm.trans z2
  have ei : kC.instanceTypes = kZ.instanceTypes := by rw [z3]
  have hN : (T.heap.push { cls := cC, slots := kC.instanceTypes.map defaultValue, vm := .none })[T.heap.size]? = some { cls := cC, slots := kC.instanceTypes.map defaultValue, vm := .none } := by simp
  have hsz := RA.1
  refine go stp ?_
  rw [hsz]
  refine k _ ⟨locs, X', N, ?_⟩
  show Rep D Z n0 (T.heap.push _) _
  refine RA.push ⟨fun z => absurd ht (by omega), fun _ => ⟨⟨_, kZ, hN, h1, z1, rfl, fun _ => by simp [ei]⟩, fun j O f d v e1 e2 => ?_⟩⟩
  rw [List.getElem?_map, Option.map_eq_some_iff] at e2
  obtain ⟨v0, e2, rfl⟩ := e2
  obtain ⟨ty, p1, p2, p3⟩ := hds j O f d v0 e1 e2
  obtain ⟨c1, k1, cf, kf, i, f', a1, a2, a3, a4, a5, a6, -⟩ := p2.spec
  cases h1.symm.trans a1
  cases z1.symm.trans a2
  exact ⟨_, cf, kf, i, f', hN, a3, a4, by simp, rfl, a5, by simp [ei, a6, (State.fieldFound?_type a3 p1).2, p3]⟩
theorem newa (K : Cx p l e R s m meth c Z a0 W own nm bytes ml rt) (X : On p l e R s m args below meth c D Z n0 T A cells slots) {i1 t cap : Nat} {at' : ArrayType} {n : Int32} {dv : Value} (w1 : W[i1]? = some (.arrayClass (newarray.typeOf at'))) (hd : decode bytes pc = .ok (.newarray at', 2))
    (hb : cap * 8 ≤ 536870912) (hc : cells + 1 ≤ R.cells) (hs : slots + cap ≤ R.slots) (ht : t < 10) (hty : newarray.typeOf at' = aty t) (hdv : lf n0 dv = defaultValue (aty t)) {q : Nat × AH} (hq : h_anew A t cap n dv = some q)
    {pc' : Nat} (hp : pc + 2 = pc') (k : ∀ T', On p l e R s m args below meth c D Z n0 T' q.2 (cells + 1) (slots + cap) → Go p e below (T'.setTop (mkF m pc'  Ls (.ref (n0 + q.1) :: st))) G) : Go p e below (T.setTop (mkF m pc Ls (.int n :: st))) G := by
  subst hp
  unfold h_anew at hq
  split at hq
  · cases hq
  rename_i hn
  cases hq
  have hn1 : ¬ n < 0 := fun z => hn (Or.inl z)
  have hn2 : n.toNatClampNeg ≤ cap := Nat.le_of_not_lt fun z => hn (Or.inr z)
  have hn3 : n.toNatClampNeg < 2 ^ 31 := (back32 hn1).2
  obtain ⟨locs, X, N, RA⟩ := X
  have hZ := K.2.1
  have hcb : componentBytes (newarray.typeOf at') ≤ 8 := by cases at' <;> decide
  obtain ⟨cA, kA, comp, h1, h2, h3, X', stp⟩ := X.newarrayPrim K.1 (mvA hZ (wd K w1)) (g := mkF m pc Ls (.int n :: st)) rfl (dc K hd) rfl hn1 (Nat.le_trans (Nat.mul_le_mul hn2 hcb) hb) hc (by omega)
  rw [hZ.alike.findClass] at h1
  obtain ⟨kZ, z1, -⟩ := Vm.findClass_spec h1
  obtain ⟨k', z2, z3⟩ := hZ.alike.2.2 _ _ z1
  cases h2.symm.trans z2
  refine go stp ?_
  rw [RA.1]
  refine k _ ⟨locs, X'.more (Nat.le_refl _) (by omega), N, ?_⟩
  show Rep D Z n0 (T.heap.push _) _
  refine RA.push ⟨fun _ => ⟨_, ⟨by simp; rfl, ⟨by simp, kZ, z1, comp, by rw [← hty, ← h3, z3]⟩, by simp⟩, ?_, by simpa using hn3, fun v hv => ?_⟩, fun z => absurd ht (by omega)⟩
  · simp [hty, hdv]
  · rw [List.map_replicate] at hv
    rw [List.eq_of_mem_replicate hv, hdv]; cases aty t <;> rfl
/-! arrays -/
theorem h_alen' (K : Cx p l e R s m meth c Z a0 W own nm bytes ml rt) (X : On p l e R s m args below meth c D Z n0 T A cells slots) {t a : Nat} {n : Int32} (ht : t < 10) (hg : h_alen A t a = some n) (hd : decode bytes pc = .ok (.arraylength, 1))
    {pc' : Nat} (hp : pc + 1 = pc') (k : Go p e below (T.setTop (mkF m pc'  Ls (.int n :: st))) G) : Go p e below (T.setTop (mkF m pc Ls (.ref (n0 + a) :: st))) G := by
  subst hp
  obtain ⟨locs, X, N, RA⟩ := X
  unfold h_alen at hg
  split at hg
  · rename_i t' vs e
    split at hg
    · rename_i q; subst q
      cases hg
      obtain ⟨cl, h1, h2, -⟩ := RA.arr ht e
      have : cl.slots.size = vs.length := by rw [← Array.length_toList, h2]; simp
      rw [← this] at k
      exact go (X.arraylength K.1 h1.1 (State.isArrayOf_alike K.2.1.alike h1.2.1) (g := mkF m pc Ls (.ref (n0 + a) :: st)) rfl rfl (dc K hd)) k
    · cases hg
  · cases hg
theorem ald0 (K : Cx p l e R s m meth c Z a0 W own nm bytes ml rt) (X : On p l e R s m args below meth c D Z n0 T A cells slots) {a : Nat} {j : Int32} {v : Value} (hg : h_aget A 0 a j = some v) (hd : decode bytes pc = .ok (.iaload, 1))
    {pc' : Nat} (hp : pc + 1 = pc') (k : Go p e below (T.setTop (mkF m pc'  Ls (lf n0 v :: st))) G) : Go p e below (T.setTop (mkF m pc Ls (.int j :: .ref (n0 + a) :: st))) G := by
  subst hp
  obtain ⟨locs, X, N, RA⟩ := X
  obtain ⟨cl, h1, h2, h3⟩ := RA.at (by decide) hg
  exact go (X.iaload K.1 h1.1 (State.isArrayOf_alike K.2.1.alike h1.2.1) h1.2.2 h2 h3 (g := mkF m pc Ls (.int j :: .ref (n0 + a) :: st)) rfl rfl (dc K hd)) k
theorem ald1 (K : Cx p l e R s m meth c Z a0 W own nm bytes ml rt) (X : On p l e R s m args below meth c D Z n0 T A cells slots) {a : Nat} {j : Int32} {v : Value} (hg : h_aget A 1 a j = some v) (hd : decode bytes pc = .ok (.caload, 1))
    {pc' : Nat} (hp : pc + 1 = pc') (k : Go p e below (T.setTop (mkF m pc'  Ls (lf n0 v :: st))) G) : Go p e below (T.setTop (mkF m pc Ls (.int j :: .ref (n0 + a) :: st))) G := by
  subst hp
  obtain ⟨locs, X, N, RA⟩ := X
  obtain ⟨cl, h1, h2, h3⟩ := RA.at (by decide) hg
  exact go (X.caload K.1 h1.1 (State.isArrayOf_alike K.2.1.alike h1.2.1) h1.2.2 h2 h3 (g := mkF m pc Ls (.int j :: .ref (n0 + a) :: st)) rfl rfl (dc K hd)) k
theorem ald2 (K : Cx p l e R s m meth c Z a0 W own nm bytes ml rt) (X : On p l e R s m args below meth c D Z n0 T A cells slots) {a : Nat} {j : Int32} {v : Value} (hg : h_aget A 2 a j = some v) (hd : decode bytes pc = .ok (.baload, 1))
    {pc' : Nat} (hp : pc + 1 = pc') (k : Go p e below (T.setTop (mkF m pc'  Ls (lf n0 v :: st))) G) : Go p e below (T.setTop (mkF m pc Ls (.int j :: .ref (n0 + a) :: st))) G := by
  subst hp
  obtain ⟨locs, X, N, RA⟩ := X
  obtain ⟨cl, h1, h2, h3⟩ := RA.at (by decide) hg
  exact go (X.baloadBytes K.1 h1.1 (State.isArrayOf_alike K.2.1.alike h1.2.1) h1.2.2 h2 h3 (g := mkF m pc Ls (.int j :: .ref (n0 + a) :: st)) rfl rfl (dc K hd)) k
theorem ald3 (K : Cx p l e R s m meth c Z a0 W own nm bytes ml rt) (X : On p l e R s m args below meth c D Z n0 T A cells slots) {a : Nat} {j : Int32} {v : Value} (hg : h_aget A 3 a j = some v) (hd : decode bytes pc = .ok (.laload, 1))
    {pc' : Nat} (hp : pc + 1 = pc') (k : Go p e below (T.setTop (mkF m pc'  Ls (lf n0 v :: st))) G) : Go p e below (T.setTop (mkF m pc Ls (.int j :: .ref (n0 + a) :: st))) G := by
  subst hp
  obtain ⟨locs, X, N, RA⟩ := X
  obtain ⟨cl, h1, h2, h3⟩ := RA.at (by decide) hg
  exact go (X.laload K.1 h1.1 (State.isArrayOf_alike K.2.1.alike h1.2.1) h1.2.2 h2 h3 (g := mkF m pc Ls (.int j :: .ref (n0 + a) :: st)) rfl rfl (dc K hd)) k
theorem ald4 (K : Cx p l e R s m meth c Z a0 W own nm bytes ml rt) (X : On p l e R s m args below meth c D Z n0 T A cells slots) {a : Nat} {j : Int32} {v : Value} (hg : h_aget A 4 a j = some v) (hd : decode bytes pc = .ok (.baload, 1))
    {pc' : Nat} (hp : pc + 1 = pc') (k : Go p e below (T.setTop (mkF m pc'  Ls (lf n0 v :: st))) G) : Go p e below (T.setTop (mkF m pc Ls (.int j :: .ref (n0 + a) :: st))) G := by
  subst hp
  obtain ⟨locs, X, N, RA⟩ := X
  obtain ⟨cl, h1, h2, h3⟩ := RA.at (by decide) hg
  exact go (X.baloadBooleans K.1 h1.1 (State.isArrayOf_alike K.2.1.alike h1.2.1) h1.2.2 h2 h3 (g := mkF m pc Ls (.int j :: .ref (n0 + a) :: st)) rfl rfl (dc K hd)) k
theorem ld0 (K : Cx p l e R s m meth c Z a0 W own nm bytes ml rt) (X : On p l e R s m args below meth c D Z n0 T A cells slots) {a : Nat} {j : Int32} {v : Int32} (hg : asI (h_aget A 0 a j) = some v) (hd : decode bytes pc = .ok (.iaload, 1))
    {pc' : Nat} (hp : pc + 1 = pc') (k : Go p e below (T.setTop (mkF m pc' Ls (.int v :: st))) G) : Go p e below (T.setTop (mkF m pc Ls (.int j :: .ref (n0 + a) :: st))) G := ald0 K X (asI_s hg) hd hp k
theorem ld1 (K : Cx p l e R s m meth c Z a0 W own nm bytes ml rt) (X : On p l e R s m args below meth c D Z n0 T A cells slots) {a : Nat} {j : Int32} {v : Int32} (hg : asI (h_aget A 1 a j) = some v) (hd : decode bytes pc = .ok (.caload, 1))
    {pc' : Nat} (hp : pc + 1 = pc') (k : Go p e below (T.setTop (mkF m pc' Ls (.int v :: st))) G) : Go p e below (T.setTop (mkF m pc Ls (.int j :: .ref (n0 + a) :: st))) G := ald1 K X (asI_s hg) hd hp k
theorem ld2 (K : Cx p l e R s m meth c Z a0 W own nm bytes ml rt) (X : On p l e R s m args below meth c D Z n0 T A cells slots) {a : Nat} {j : Int32} {v : Int32} (hg : asI (h_aget A 2 a j) = some v) (hd : decode bytes pc = .ok (.baload, 1))
    {pc' : Nat} (hp : pc + 1 = pc') (k : Go p e below (T.setTop (mkF m pc' Ls (.int v :: st))) G) : Go p e below (T.setTop (mkF m pc Ls (.int j :: .ref (n0 + a) :: st))) G := ald2 K X (asI_s hg) hd hp k
theorem ld3 (K : Cx p l e R s m meth c Z a0 W own nm bytes ml rt) (X : On p l e R s m args below meth c D Z n0 T A cells slots) {a : Nat} {j : Int32} {v : Int64} (hg : asJ (h_aget A 3 a j) = some v) (hd : decode bytes pc = .ok (.laload, 1))
    {pc' : Nat} (hp : pc + 1 = pc') (k : Go p e below (T.setTop (mkF m pc' Ls (.long v :: st))) G) : Go p e below (T.setTop (mkF m pc Ls (.int j :: .ref (n0 + a) :: st))) G := ald3 K X (asJ_s hg) hd hp k
theorem ld4 (K : Cx p l e R s m meth c Z a0 W own nm bytes ml rt) (X : On p l e R s m args below meth c D Z n0 T A cells slots) {a : Nat} {j : Int32} {v : Int32} (hg : asI (h_aget A 4 a j) = some v) (hd : decode bytes pc = .ok (.baload, 1))
    {pc' : Nat} (hp : pc + 1 = pc') (k : Go p e below (T.setTop (mkF m pc' Ls (.int v :: st))) G) : Go p e below (T.setTop (mkF m pc Ls (.int j :: .ref (n0 + a) :: st))) G := ald4 K X (asI_s hg) hd hp k
theorem ast0 (K : Cx p l e R s m meth c Z a0 W own nm bytes ml rt) (X : On p l e R s m args below meth c D Z n0 T A cells slots) {a : Nat} {j x : Int32} (hp : h_aset A 0 a j (.int x) = some A') (hd : decode bytes pc = .ok (.iastore, 1))
    {pc' : Nat} (hp : pc + 1 = pc') (k : ∀ T', On p l e R s m args below meth c D Z n0 T' A' cells slots → Go p e below (T'.setTop (mkF m pc'  Ls st)) G) : Go p e below (T.setTop (mkF m pc Ls (.int x :: .int j :: .ref (n0 + a) :: st))) G := by
  subst hp
  obtain ⟨locs, X, N, RA⟩ := X
  obtain ⟨cl, h1, h2⟩ := RA.into (by decide) hp
  obtain ⟨T', h', X', e', W', stp⟩ := stI X K.1 K.2.1 rfl h1 h2 (g := mkF m pc Ls (.int x :: .int j :: .ref (n0 + a) :: st)) rfl rfl (dc K hd)
  exact go stp (k T' ⟨_, X', Fr.snoc X' N (Nat.le_add_right _ _), by rw [e']; exact RA.wrA (by decide) hp rfl W'⟩)
theorem ast1 (K : Cx p l e R s m meth c Z a0 W own nm bytes ml rt) (X : On p l e R s m args below meth c D Z n0 T A cells slots) {a : Nat} {j x : Int32} (hp : h_aset A 1 a j (.int (nar .char x)) = some A') (hd : decode bytes pc = .ok (.castore, 1))
    {pc' : Nat} (hp : pc + 1 = pc') (k : ∀ T', On p l e R s m args below meth c D Z n0 T' A' cells slots → Go p e below (T'.setTop (mkF m pc'  Ls st)) G) : Go p e below (T.setTop (mkF m pc Ls (.int x :: .int j :: .ref (n0 + a) :: st))) G := by
  subst hp
  obtain ⟨locs, X, N, RA⟩ := X
  obtain ⟨cl, h1, h2⟩ := RA.into (by decide) hp
  obtain ⟨T', h', X', e', W', stp⟩ := stC X K.1 K.2.1 rfl h1 h2 (g := mkF m pc Ls (.int x :: .int j :: .ref (n0 + a) :: st)) rfl rfl (dc K hd)
  exact go stp (k T' ⟨_, X', Fr.snoc X' N (Nat.le_add_right _ _), by rw [e']; exact RA.wrA (by decide) hp (fits_nar_char _) W'⟩)
theorem ast2 (K : Cx p l e R s m meth c Z a0 W own nm bytes ml rt) (X : On p l e R s m args below meth c D Z n0 T A cells slots) {a : Nat} {j x : Int32} (hp : h_aset A 2 a j (.int (nar .byte x)) = some A') (hd : decode bytes pc = .ok (.bastore, 1))
    {pc' : Nat} (hp : pc + 1 = pc') (k : ∀ T', On p l e R s m args below meth c D Z n0 T' A' cells slots → Go p e below (T'.setTop (mkF m pc'  Ls st)) G) : Go p e below (T.setTop (mkF m pc Ls (.int x :: .int j :: .ref (n0 + a) :: st))) G := by
  subst hp
  obtain ⟨locs, X, N, RA⟩ := X
  obtain ⟨cl, h1, h2⟩ := RA.into (by decide) hp
  obtain ⟨T', h', X', e', W', stp⟩ := stB X K.1 K.2.1 rfl h1 h2 (g := mkF m pc Ls (.int x :: .int j :: .ref (n0 + a) :: st)) rfl rfl (dc K hd)
  exact go stp (k T' ⟨_, X', Fr.snoc X' N (Nat.le_add_right _ _), by rw [e']; exact RA.wrA (by decide) hp (fits_nar_byte _) W'⟩)
theorem ast3 (K : Cx p l e R s m meth c Z a0 W own nm bytes ml rt) (X : On p l e R s m args below meth c D Z n0 T A cells slots) {a : Nat} {j : Int32} {x : Int64} (hp : h_aset A 3 a j (.long x) = some A') (hd : decode bytes pc = .ok (.lastore, 1))
    {pc' : Nat} (hp : pc + 1 = pc') (k : ∀ T', On p l e R s m args below meth c D Z n0 T' A' cells slots → Go p e below (T'.setTop (mkF m pc'  Ls st)) G) : Go p e below (T.setTop (mkF m pc Ls (.long x :: .int j :: .ref (n0 + a) :: st))) G := by
  subst hp
  obtain ⟨locs, X, N, RA⟩ := X
  obtain ⟨cl, h1, h2⟩ := RA.into (by decide) hp
  obtain ⟨T', h', X', e', W', stp⟩ := stJ X K.1 K.2.1 rfl h1 h2 (g := mkF m pc Ls (.long x :: .int j :: .ref (n0 + a) :: st)) rfl rfl (dc K hd)
  exact go stp (k T' ⟨_, X', Fr.snoc X' N (Nat.le_add_right _ _), by rw [e']; exact RA.wrA (by decide) hp rfl W'⟩)
theorem ast4 (K : Cx p l e R s m meth c Z a0 W own nm bytes ml rt) (X : On p l e R s m args below meth c D Z n0 T A cells slots) {a : Nat} {j x : Int32} (hp : h_aset A 4 a j (.int (nar .boolean x)) = some A') (hd : decode bytes pc = .ok (.bastore, 1))
    {pc' : Nat} (hp : pc + 1 = pc') (k : ∀ T', On p l e R s m args below meth c D Z n0 T' A' cells slots → Go p e below (T'.setTop (mkF m pc'  Ls st)) G) : Go p e below (T.setTop (mkF m pc Ls (.int x :: .int j :: .ref (n0 + a) :: st))) G := by
  subst hp
  obtain ⟨locs, X, N, RA⟩ := X
  obtain ⟨cl, h1, h2⟩ := RA.into (by decide) hp
  obtain ⟨T', h', X', e', W', stp⟩ := stZ X K.1 K.2.1 rfl h1 h2 (g := mkF m pc Ls (.int x :: .int j :: .ref (n0 + a) :: st)) rfl rfl (dc K hd)
  exact go stp (k T' ⟨_, X', Fr.snoc X' N (Nat.le_add_right _ _), by rw [e']; exact RA.wrA (by decide) hp (fits_nar_bool _) W'⟩)
/-! calls -/
theorem obj (K : Cx p l e R s m meth c Z a0 W own nm bytes ml rt) (X : On p l e R s m args below meth c D Z n0 T A cells slots) {i1 i2 i3 idx w : Nat} {a : Addr} (w1 : W[i1]? = some (.methodLink own idx Lib.objectInit)) (w2 : W[i2]? = some (.instanceMethod Lib.objectInit)) (w3 : W[i3]? = some (.code Lib.objectInit ⟨#[0xb1]⟩ 1 none))
    (hd : decode bytes pc = .ok (.invokespecial idx, 3)) (hz : Ls.size = ml) (hf : 1 ≤ R.frames) (hw : (st.map fun v => v.category).sum ≤ w) (hl : w + 12 ≤ R.locals)
    {pc' : Nat} (hp : pc + 3 = pc') (k : ∀ T', On p l e R s m args below meth c D Z n0 T' A cells slots → Go p e below (T'.setTop (mkF m pc'  Ls st)) G) : Go p e below (T.setTop (mkF m pc Ls (.ref a :: st))) G := by
  subst hp
  obtain ⟨locs, X, N, RA⟩ := X
  obtain ⟨T', X', e', stp⟩ := initO X K.1 K.2.1 K.2.2.1 (wd K w1) (wd K w2) (wd K w3) rfl (g := mkF m pc Ls (.ref a :: st)) rfl (hz.trans K.2.2.2.2.1.symm) rfl (dc K hd) hf (W := w) (by simpa [JFrame.monitorRoom] using hw) hl
  exact go stp (k T' ⟨locs, X', N, by rw [e']; exact RA⟩)
theorem calls (K : Cx p l e R s m meth c Z a0 W own nm bytes ml rt) (X : On p l e R s m args below meth c D Z n0 T A cells slots) {i1 i2 i3 i4 idx w : Nat} {y : MethodName} {by' : ByteArray} {ml' : Nat} {rt' : Option FieldType} {rm : Room} {as : List Value} {r : Option Value} {S : List Value} {ps : List FieldType}
    (w1 : W[i1]? = some (.methodLink own idx y)) (w2 : W[i2]? = some (.static y)) (w3 : W[i3]? = some (.initialized y.cls)) (w4 : W[i4]? = some (.code y by' ml' rt')) (hy : y.cls ≠ "java/lang/invoke/MethodHandle" ∧ y.cls ≠ "java/lang/invoke/VarHandle")
    (M : Met l D Z n0 y by' ml' rt' rm as A r A') (hpd : parseMethodDescriptor y.desc = some ⟨ps, rt'⟩) (hlen : as.length = ps.length) (hd : decode bytes pc = .ok (.invokestatic idx, 3)) (hz : Ls.size = ml) (hS : S = as.reverse ++ st)
    (hf : rm.frames + 1 ≤ R.frames) (hw : (st.map fun v => v.category).sum ≤ w) (hl : w + (ml' + 11) + rm.locals ≤ R.locals) (hc : cells + rm.cells ≤ R.cells) (hs : slots + rm.slots ≤ R.slots)
    {pc' kc ks : Nat} {S' : List Value} (ec : cells + rm.cells = kc) (es : slots + rm.slots = ks) (hS' : r.toList ++ st = S') (hp : pc + 3 = pc') (k : ∀ T', On p l e R s m args below meth c D Z n0 T' A' kc ks → Go p e below (T'.setTop (mkF m pc' Ls S')) G) : Go p e below (T.setTop (mkF m pc Ls S)) G := by
  subst hp ec es hS'
  obtain ⟨locs, X, N, RA⟩ := X
  obtain ⟨v, vm, ⟨T', L', k', n'⟩, -, X', ⟨Lc, hQ, q1, q2, q3⟩, stp⟩ := Jvm.LawKit.callS X K.1 K.2.2.1 (mvT K.2.1 (wd K w1)) (mvT K.2.1 (wd K w2)) (mvT K.2.1 (wd K w3)) (mvT K.2.1 (wd K w4)) hy
    (backOf (W := w) (M [] T.heap RA) K.2.1 (wd K w4) (wd K w3) hf hl) (g := mkF m pc Ls S) rfl (hz.trans K.2.2.2.2.1.symm) (argsL := as) (rest := st) (lenOf hpd hlen) hS (by simpa [JFrame.monitorRoom] using hw) (dc K hd) (fun _ _ => ⟨rfl, rfl, hc, hs⟩)
  dsimp only [Pt.U, Pt.locs, Pt.cells, Pt.slots] at X' q1 q2 q3 hQ stp
  subst q1 q2 q3
  obtain ⟨rfl, N', RA'⟩ := hQ
  exact go stp (k T' ⟨_, X', Fr.app N N', RA'⟩)
theorem calli (K : Cx p l e R s m meth c Z a0 W own nm bytes ml rt) (X : On p l e R s m args below meth c D Z n0 T A cells slots) {i1 i2 i3 i4 idx w : Nat} {y : MethodName} {by' : ByteArray} {ml' : Nat} {rm : Room} {a : Addr} {as : List Value} {S : List Value} {ps : List FieldType}
    (w1 : W[i1]? = some (.methodLink own idx y)) (w2 : W[i2]? = some (.instanceMethod y)) (w3 : W[i3]? = some (.initialized y.cls)) (w4 : W[i4]? = some (.code y by' ml' none)) (hy1 : y.name = "<init>") (hy : y.cls ≠ "java/lang/invoke/MethodHandle" ∧ y.cls ≠ "java/lang/invoke/VarHandle")
    (M : Met l D Z n0 y by' ml' none rm (.ref a :: as) A none A') (hpd : parseMethodDescriptor y.desc = some ⟨ps, none⟩) (hlen : as.length = ps.length) (hd : decode bytes pc = .ok (.invokespecial idx, 3)) (hz : Ls.size = ml) (hS : S = as.reverse ++ .ref a :: st)
    (hf : rm.frames + 1 ≤ R.frames) (hw : (st.map fun v => v.category).sum ≤ w) (hl : w + (ml' + 11) + rm.locals ≤ R.locals) (hc : cells + rm.cells ≤ R.cells) (hs : slots + rm.slots ≤ R.slots)
    {pc' kc ks : Nat} (ec : cells + rm.cells = kc) (es : slots + rm.slots = ks) (hp : pc + 3 = pc') (k : ∀ T', On p l e R s m args below meth c D Z n0 T' A' kc ks → Go p e below (T'.setTop (mkF m pc'  Ls st)) G) : Go p e below (T.setTop (mkF m pc Ls S)) G := by
  subst hp ec es
  obtain ⟨locs, X, N, RA⟩ := X
  obtain ⟨v, vm, ⟨T', L', k', n'⟩, -, X', ⟨Lc, hQ, q1, q2, q3⟩, stp⟩ := X.specialBack K.1 hy1 K.2.2.1 (mvT K.2.1 (wd K w1)) (mvT K.2.1 (wd K w2)) (mvT K.2.1 (wd K w4)) hy
    (backOf (W := w) (M [] T.heap RA) K.2.1 (wd K w4) (wd K w3) hf hl) (g := mkF m pc Ls S) rfl (hz.trans K.2.2.2.2.1.symm) (Steps.refl _) (a := a) (argsL := as) (rest := st) (lenOf hpd hlen) hS (by simpa [JFrame.monitorRoom] using hw) (dc K hd) (fun _ _ => ⟨rfl, rfl, hc, hs⟩)
  dsimp only [Pt.U, Pt.locs, Pt.cells, Pt.slots] at X' q1 q2 q3 hQ stp
  subst q1 q2 q3
  obtain ⟨rfl, N', RA'⟩ := hQ
  exact go (fun _ q => stp.trans q) (k T' ⟨_, X', Fr.app N N', RA'⟩)
theorem callv (K : Cx p l e R s m meth c Z a0 W own nm bytes ml rt) (X : On p l e R s m args below meth c D Z n0 T A cells slots) {i1 i2 i3 i4 i5 i6 idx w t a : Nat} {u : Unit} {y : MethodName} {by' : ByteArray} {ml' : Nat} {rt' : Option FieldType} {rm : Room} {as : List Value} {r : Option Value} {S : List Value} {ps : List FieldType}
    (w1 : W[i1]? = some (.methodLink own idx y)) (w2 : W[i2]? = some (.declares y)) (w5 : W[i5]? = some (.selects (D t).1 y y)) (w6 : W[i6]? = some (.instanceMethod y)) (w3 : W[i3]? = some (.initialized y.cls)) (w4 : W[i4]? = some (.code y by' ml' rt')) (hy : y.cls ≠ "java/lang/invoke/MethodHandle" ∧ y.cls ≠ "java/lang/invoke/VarHandle")
    (ht : 10 ≤ t) (hA : h_isA A t a = some u) (M : Met l D Z n0 y by' ml' rt' rm (.ref (n0 + a) :: as) A r A') (hpd : parseMethodDescriptor y.desc = some ⟨ps, rt'⟩) (hlen : as.length = ps.length) (hd : decode bytes pc = .ok (.invokevirtual idx, 3)) (hz : Ls.size = ml) (hS : S = as.reverse ++ .ref (n0 + a) :: st)
    (hf : rm.frames + 1 ≤ R.frames) (hw : (st.map fun v => v.category).sum ≤ w) (hl : w + (ml' + 11) + rm.locals ≤ R.locals) (hc : cells + rm.cells ≤ R.cells) (hs : slots + rm.slots ≤ R.slots)
    {pc' kc ks : Nat} {S' : List Value} (ec : cells + rm.cells = kc) (es : slots + rm.slots = ks) (hS' : r.toList ++ st = S') (hp : pc + 3 = pc') (k : ∀ T', On p l e R s m args below meth c D Z n0 T' A' kc ks → Go p e below (T'.setTop (mkF m pc' Ls S')) G) : Go p e below (T.setTop (mkF m pc Ls S)) G := by
  subst hp ec es hS'
  obtain ⟨locs, X, N, RA⟩ := X
  obtain ⟨vs, hA⟩ := isA_s hA
  obtain ⟨cq, kq, q1, q2, q3⟩ := isOf K.2.1 rfl (RA.exa ht hA)
  obtain ⟨v, vm, ⟨T', L', k', n'⟩, -, X', ⟨Lc, hQ, q1, q2, q3⟩, stp⟩ := X.virtualBack K.1 (y := y) (z := y) K.2.2.1 (mvT K.2.1 (wd K w1)) (mvT K.2.1 (wd K w2)) (notFace_of_selects (args := #[]) (mvT K.2.1 (wd K w5))) (mvT K.2.1 (wd K w5)) (mvT K.2.1 (wd K w6)) hy
    (backOf (W := w) (M [] T.heap RA) K.2.1 (wd K w4) (wd K w3) hf hl) q1 q3 (g := mkF m pc Ls S) rfl (hz.trans K.2.2.2.2.1.symm) (Steps.refl _) (argsL := as) (rest := st) (lenOf hpd hlen) hS (by simpa [JFrame.monitorRoom] using hw) (dc K hd) (fun _ _ => ⟨rfl, rfl, hc, hs⟩)
  dsimp only [Pt.U, Pt.locs, Pt.cells, Pt.slots] at X' q1 q2 q3 hQ stp
  subst q1 q2 q3
  obtain ⟨rfl, N', RA'⟩ := hQ
  exact go (fun _ q => stp.trans q) (k T' ⟨_, X', Fr.app N N', RA'⟩)
theorem callp (K : Cx p l e R s m meth c Z a0 W own nm bytes ml rt) (X : On p l e R s m args below meth c D Z n0 T A cells slots) {i1 i2 i3 i4 i5 i6 idx w t a kk : Nat} {u : Unit} {y : MethodName} {by' : ByteArray} {ml' : Nat} {rt' : Option FieldType} {rm : Room} {as : List Value} {r : Option Value} {S : List Value} {ps : List FieldType}
    (w1 : W[i1]? = some (.methodLink own idx y)) (w2 : W[i2]? = some (.privateMethod y)) (w5 : W[i5]? = some (.instantiable y.cls kk)) (w6 : W[i6]? = some (.instanceMethod y)) (w3 : W[i3]? = some (.initialized y.cls)) (w4 : W[i4]? = some (.code y by' ml' rt')) (hy : y.cls ≠ "java/lang/invoke/MethodHandle" ∧ y.cls ≠ "java/lang/invoke/VarHandle")
    (ht : 10 ≤ t) (hA : h_isA A t a = some u) (M : Met l D Z n0 y by' ml' rt' rm (.ref (n0 + a) :: as) A r A') (hpd : parseMethodDescriptor y.desc = some ⟨ps, rt'⟩) (hlen : as.length = ps.length) (hd : decode bytes pc = .ok (.invokevirtual idx, 3)) (hz : Ls.size = ml) (hS : S = as.reverse ++ .ref (n0 + a) :: st)
    (hf : rm.frames + 1 ≤ R.frames) (hw : (st.map fun v => v.category).sum ≤ w) (hl : w + (ml' + 11) + rm.locals ≤ R.locals) (hc : cells + rm.cells ≤ R.cells) (hs : slots + rm.slots ≤ R.slots)
    {pc' kc ks : Nat} {S' : List Value} (ec : cells + rm.cells = kc) (es : slots + rm.slots = ks) (hS' : r.toList ++ st = S') (hp : pc + 3 = pc') (k : ∀ T', On p l e R s m args below meth c D Z n0 T' A' kc ks → Go p e below (T'.setTop (mkF m pc' Ls S')) G) : Go p e below (T.setTop (mkF m pc Ls S)) G := by
  subst hp ec es hS'
  obtain ⟨locs, X, N, RA⟩ := X
  obtain ⟨vs, hA⟩ := isA_s hA
  obtain ⟨cq, q1, q2⟩ := (RA.exa ht hA).cell
  have wi : (Jvm.Cond.instantiable y.cls kk).before #[] s = true := mvT K.2.1 (wd K w5)
  obtain ⟨c0, k0, i1, i2, i3, i4, -⟩ := Cond.instantiable_spec wi
  have hni : k0.isInterface = false := (Bool.or_eq_false_iff.mp i4).1
  have hpr : s.PrivateAt y := Cond.privateMethod_at (mvP K.2.1 (wd K w2) (args := #[]))
  have hin : (Jvm.Cond.instanceMethod y).before args s = true := mvT K.2.1 (wd K w6)
  obtain ⟨v, vm, ⟨T', L', k', n'⟩, -, X', ⟨Lc, hQ, q1, q2, q3⟩, stp⟩ := X.privateBack K.1 (y := y) K.2.2.1 (mvT K.2.1 (wd K w1)) hin (selects_self_of_private i1 i2 hni hpr hin hy) hpr (mvT K.2.1 (wd K w4)) hy
    (backOf (W := w) (M [] T.heap RA) K.2.1 (wd K w4) (wd K w3) hf hl) (g := mkF m pc Ls S) rfl (hz.trans K.2.2.2.2.1.symm) (Steps.refl _) (a := n0 + a) q1 q2 (argsL := as) (rest := st) (lenOf hpd hlen) hS (by simpa [JFrame.monitorRoom] using hw) (dc K hd) (fun _ _ => ⟨rfl, rfl, hc, hs⟩)
  dsimp only [Pt.U, Pt.locs, Pt.cells, Pt.slots] at X' q1 q2 q3 hQ stp
  subst q1 q2 q3
  obtain ⟨rfl, N', RA'⟩ := hQ
  exact go (fun _ q => stp.trans q) (k T' ⟨_, X', Fr.app N N', RA'⟩)
theorem acp (K : Cx p l e R s m meth c Z a0 W own nm bytes ml rt) (X : On p l e R s m args below meth c D Z n0 T A cells slots) {i1 i2 i3 i4 idx w t a b : Nat} {sp dp n : Int32} (w1 : W[i1]? = some (.methodLink own idx Jvm.Stand.acN)) (w2 : W[i2]? = some (.native Jvm.Stand.acN)) (w3 : W[i3]? = some (.static Jvm.Stand.acN)) (w4 : W[i4]? = some (.initialized "java/lang/System"))
    (hd : decode bytes pc = .ok (.invokestatic idx, 3)) (hz : Ls.size = ml) (ht : t < 10) (hq : h_acp A t a b sp dp n = some A') (hf : 1 ≤ R.frames) (hw : (st.map fun v => v.category).sum ≤ w) (hl : w + (nativeFrameWords "java/lang/System" "arraycopy" 5 + 11) ≤ R.locals)
    {pc' : Nat} (hp : pc + 3 = pc') (k : ∀ T', On p l e R s m args below meth c D Z n0 T' A' cells slots → Go p e below (T'.setTop (mkF m pc' Ls st)) G) : Go p e below (T.setTop (mkF m pc Ls (.int n :: .int dp :: .ref (n0 + b) :: .int sp :: .ref (n0 + a) :: st))) G := by
  subst hp
  obtain ⟨locs, X, N, RA⟩ := X
  have hZ := K.2.1
  unfold h_acp at hq
  split at hq
  · rename_i t1 vs t2 vd ea eb
    split at hq
    · rename_i q
      obtain ⟨rfl, q2, h1, h2, h3, h4, h5⟩ := q
      cases q2
      cases hq
      obtain ⟨cs, As, ls, -, fs⟩ := RA.arr ht ea
      obtain ⟨cd, Ad, ld, lt, fd⟩ := RA.arr ht eb
      obtain ⟨os, ks, hks, sc, hsk⟩ := State.isArrayOf_alike hZ.alike As.2.1
      obtain ⟨od, kd, hkd, dc', hdk⟩ := State.isArrayOf_alike hZ.alike Ad.2.1
      have ss : cs.slots.size = vs.length := by rw [← Array.length_toList, ls]; simp
      have sd : cd.slots.size = vd.length := by rw [← Array.length_toList, ld]; simp
      have nat : ∀ {x : Int32}, ¬ x < 0 → x.toInt = x.toNatClampNeg := fun {x} q => by
        have := nneg.mp q; rw [nclamp]; omega
      have rk : refKind (aty t1) = false := by unfold aty; split <;> rfl
      have gv : ∀ i, i < n.toNatClampNeg → ∃ u, u ∈ vs.map (lf n0) ∧ cs.slots.getD (sp.toNatClampNeg + i) .null = u ∧ (vs.map (lf n0))[sp.toNatClampNeg + i]? = some u := fun i hi => by
        have lt' : sp.toNatClampNeg + i < (vs.map (lf n0)).length := by rw [List.length_map]; omega
        refine ⟨(vs.map (lf n0))[sp.toNatClampNeg + i], List.getElem_mem lt', ?_, List.getElem?_eq_getElem lt'⟩
        rw [Array.getD_eq_getD_getElem?, ← Array.getElem?_toList, ls, List.getElem?_eq_getElem lt']; rfl
      have hmr : 2 * (mkF m pc Ls (.int n :: .int dp :: .ref (n0 + b) :: .int sp :: .ref (n0 + a) :: st)).monitorRoom + (st.map fun v => v.category).sum + (nativeFrameWords "java/lang/System" "arraycopy" 5 + 11) ≤ R.locals := by
        have e0 : (mkF m pc Ls (.int n :: .int dp :: .ref (n0 + b) :: .int sp :: .ref (n0 + a) :: st)).monitorRoom = 0 := by simp [JFrame.monitorRoom]
        rw [e0]; omega
      obtain ⟨vm₁, hW₁, X', stp⟩ := X.arraycopyK K.1 K.2.2.1 (mvT hZ (wd K w1)) (mvT hZ (wd K w2)) (mvT hZ (wd K w3)) (mvT hZ (wd K w4)) As.1 Ad.1 os od As.2.2 Ad.2.2 hks hkd hsk hdk (by simp [rk]) h1 h2 h3 (by rw [nat h1, nat h3, ss]; omega) (by rw [nat h2, nat h3, sd]; omega)
        (fun vm₁ hw' i hi => by
          obtain ⟨u, mu, eu, -⟩ := gv i hi
          rw [eu]
          refine ⟨fs u mu, ?_⟩
          have q := fs u mu
          cases u <;> try trivial
          exact (prim_no_ref rk q).elim) (g := mkF m pc Ls (.int n :: .int dp :: .ref (n0 + b) :: .int sp :: .ref (n0 + a) :: st)) rfl (hz.trans K.2.2.2.2.1.symm) rfl (dc K hd) hf hmr
      refine go stp (k _ ⟨_, X', Fr.app N (fun y hy => ?_), ?_⟩)
      · simp only [copyLocs, List.mem_map] at hy
        obtain ⟨i, -, rfl⟩ := hy
        exact Nat.le_add_right _ _
      · have cf := Cell.storeRun_facts cd dp.toNatClampNeg (cs.stretch sp.toNatClampNeg n.toNatClampNeg)
        have sl : (cs.stretch sp.toNatClampNeg n.toNatClampNeg).length = n.toNatClampNeg := Cell.stretch_length cs sp.toNatClampNeg n.toNatClampNeg
        have es : cs.stretch sp.toNatClampNeg n.toNatClampNeg = ((vs.drop sp.toNatClampNeg).take n.toNatClampNeg).map (lf n0) := by
          apply List.ext_getElem?
          intro i
          by_cases hi : i < n.toNatClampNeg
          · obtain ⟨u, -, eu, eu2⟩ := gv i hi
            rw [List.map_take, List.map_drop, List.getElem?_take_of_lt hi, List.getElem?_drop, eu2]
            show ((List.range n.toNatClampNeg).map fun i => cs.slots.getD (sp.toNatClampNeg + i) .null)[i]? = _
            rw [List.getElem?_map, List.getElem?_range hi, Option.map_some, eu]
          · rw [List.getElem?_eq_none (by omega), List.getElem?_eq_none (by rw [List.length_map, List.length_take]; omega)]
        have hlt : n0 + b < T.heap.size := Ad.lt
        have hc : (T.heap.setIfInBounds (n0 + b) (copied cs cd sp dp n))[n0 + b]? = some (copied cs cd sp dp n) := Array.getElem?_setIfInBounds_self_of_lt hlt
        show Rep D Z n0 (T.heap.setIfInBounds (n0 + b) (copied cs cd sp dp n)) _
        refine RA.cell (List.getElem?_eq_some_iff.mp eb).1 ⟨fun _ => ⟨copied cs cd sp dp n, ⟨hc, ?_, ?_⟩, ?_, ?_, ?_⟩, fun z => absurd ht (by omega)⟩
        · obtain ⟨o1, k1, g1, g2⟩ := Ad.2.1
          exact ⟨fun q z => o1 q (cf.2.1 ▸ z), k1, by show Z.vm.classes[(cd.storeRun _ _).cls]? = _; rw [cf.1]; exact g1, g2⟩
        · exact fun z => Ad.2.2 (cf.2.1 ▸ z)
        · have ml' : (((vs.drop sp.toNatClampNeg).take n.toNatClampNeg).map (lf n0)).length = n.toNatClampNeg := by rw [← es]; exact sl
          have tl : ((vd.take dp.toNatClampNeg).map (lf n0)).length = dp.toNatClampNeg := by rw [List.length_map, List.length_take]; omega
          apply List.ext_getElem?
          intro j
          rw [Array.getElem?_toList]
          show (cd.storeRun dp.toNatClampNeg (cs.stretch sp.toNatClampNeg n.toNatClampNeg)).slots[j]? = _
          rw [Cell.storeRun_get _ _ _ _ (by rw [sl, sd]; exact h5), sl, es, List.map_append, List.map_append]
          by_cases c1 : j < dp.toNatClampNeg
          · rw [if_neg (by omega), List.append_assoc, List.getElem?_append_left (by omega), List.map_take, List.getElem?_take_of_lt c1, ← ld, Array.getElem?_toList]
          · by_cases c2 : j < dp.toNatClampNeg + n.toNatClampNeg
            · rw [if_pos ⟨by omega, c2⟩, List.getElem?_append_left (by rw [List.length_append]; omega), List.getElem?_append_right (by omega), tl]
            · rw [if_neg (by omega), List.getElem?_append_right (by rw [List.length_append]; omega), List.length_append, tl, ml', List.map_drop, List.getElem?_drop, ← ld, Array.getElem?_toList]
              congr 1; omega
        · simp only [List.length_map, List.length_append, List.length_take, List.length_drop]; omega
        · intro u hu
          simp only [List.map_append, List.map_take, List.map_drop, List.mem_append] at hu
          rcases hu with (hu | hu) | hu
          · exact fd u (List.mem_of_mem_take hu)
          · exact fs u (List.mem_of_mem_drop (List.mem_of_mem_take hu))
          · exact fd u (List.mem_of_mem_drop hu)
    · cases hq
  · cases hq
/-! a body by its blocks -/
theorem met {y : MethodName} {as : List Value} {r : Option Value} {L0 : Array Slot} (hp : plainFor y = true) (hw : ∀ d ∈ W, d.before a0 Z = true) (hn : y.cls = own) (hnn : y.name = nm) (hef : ∀ m, entryFrame m as.toArray ml = mkF m 0 L0 [])
    (hb : ∀ (p : Program) (e : Env) (s : State) (m : MethodId) (below : List Frame) (meth : Method) (c : Code) (T : State), Cx p l e R s m meth c Z a0 W own nm bytes ml rt → On p l e R s m as.toArray below meth c D Z n0 T A 0 0 → Go p e below (T.setTop (mkF m 0 L0 [])) (Fini D Z n0 s R r A')) :
    Met l D Z n0 y bytes ml rt R as A r A' := by
  intro ws h0 RA
  refine MetFree.of_bodySF hp hisR ?_
  intro p e s m args below meth c s₁ Bd hml0 hP hK
  obtain ⟨rfl, hZ, hh⟩ := hP
  have hown : s.vm.findClass own = some m.cls := hn ▸ findClass_of_methodNamed Bd.named
  have hnm := (name_of_methodNamed Bd.named Bd.method).1
  have X0 : Stand p l e R s m as.toArray below meth c s₁ [] 0 0 := Stand.of_body Bd
  have e0 : s₁.heap = h0 := by rw [← hh, Bd.state]; rfl
  have := hb p e s m below meth c s₁ ⟨Bd.exec, hZ, hown, Bd.bytes, hml0, Bd.returns, Bd.notSynchronized, hnm.trans hnn, hw⟩ ⟨[], X0, Fr.nil n0, by rw [e0]; exact RA⟩
  obtain ⟨t, o, h1, h2, h3, h4⟩ := this
  exact ⟨t, o, castTop (hef m) h1, h2, h3, h4⟩
end Walk
end Jvm.OwnKit
namespace Jvm.OwnKit
open Sem ClassFile Op Lib Jvm.Stand Jvm.Free Jvm.LawKit Jvm.RoadKit
section Instr
variable {p : Program} {l : Launch} {e : Env} {R : Room} {s : State} {m : MethodId} {args : Array Value} {below : List Frame} {meth : Method} {c : Code} {Z : State} {a0 : Array Value} {W : List Jvm.Cond} {own nm : String} {bytes : ByteArray} {ml : Nat} {rt : Option FieldType} {D : Dic} {n0 : Nat} {T : State} {A A' : AH} {cells slots : Nat} {G : Outcome → State → Prop} {pc : Nat} {Ls : Array Slot} {st : List Value}
theorem i_iadd (K : Cx p l e R s m meth c Z a0 W own nm bytes ml rt) (X : On p l e R s m args below meth c D Z n0 T A cells slots) {x y : Int32} {pc' : Nat} (hd : decode bytes pc = .ok (.iadd, 1)) (hp : pc + 1 = pc')
    (k : Go p e below (T.setTop (mkF m pc' Ls (.int (x + y) :: st))) G) : Go p e below (T.setTop (mkF m pc Ls (.int y :: .int x :: st))) G := by
  subst hp; exact go (fun _ => XS.iadd X.here K.1 (g := mkF m pc Ls (.int y :: .int x :: st)) rfl (dc K hd) rfl) k
theorem i_isub (K : Cx p l e R s m meth c Z a0 W own nm bytes ml rt) (X : On p l e R s m args below meth c D Z n0 T A cells slots) {x y : Int32} {pc' : Nat} (hd : decode bytes pc = .ok (.isub, 1)) (hp : pc + 1 = pc')
    (k : Go p e below (T.setTop (mkF m pc' Ls (.int (x - y) :: st))) G) : Go p e below (T.setTop (mkF m pc Ls (.int y :: .int x :: st))) G := by
  subst hp; exact go (fun _ => XS.isub X.here K.1 (g := mkF m pc Ls (.int y :: .int x :: st)) rfl (dc K hd) rfl) k
theorem i_imul (K : Cx p l e R s m meth c Z a0 W own nm bytes ml rt) (X : On p l e R s m args below meth c D Z n0 T A cells slots) {x y : Int32} {pc' : Nat} (hd : decode bytes pc = .ok (.imul, 1)) (hp : pc + 1 = pc')
    (k : Go p e below (T.setTop (mkF m pc' Ls (.int (x * y) :: st))) G) : Go p e below (T.setTop (mkF m pc Ls (.int y :: .int x :: st))) G := by
  subst hp; exact go (fun _ => XS.imul X.here K.1 (g := mkF m pc Ls (.int y :: .int x :: st)) rfl (dc K hd) rfl) k
theorem i_iand (K : Cx p l e R s m meth c Z a0 W own nm bytes ml rt) (X : On p l e R s m args below meth c D Z n0 T A cells slots) {x y : Int32} {pc' : Nat} (hd : decode bytes pc = .ok (.iand, 1)) (hp : pc + 1 = pc')
    (k : Go p e below (T.setTop (mkF m pc' Ls (.int (x &&& y) :: st))) G) : Go p e below (T.setTop (mkF m pc Ls (.int y :: .int x :: st))) G := by
  subst hp; exact go (fun _ => XS.iand X.here K.1 (g := mkF m pc Ls (.int y :: .int x :: st)) rfl (dc K hd) rfl) k
theorem i_ior (K : Cx p l e R s m meth c Z a0 W own nm bytes ml rt) (X : On p l e R s m args below meth c D Z n0 T A cells slots) {x y : Int32} {pc' : Nat} (hd : decode bytes pc = .ok (.ior, 1)) (hp : pc + 1 = pc')
    (k : Go p e below (T.setTop (mkF m pc' Ls (.int (x ||| y) :: st))) G) : Go p e below (T.setTop (mkF m pc Ls (.int y :: .int x :: st))) G := by
  subst hp; exact go (fun _ => XS.ior X.here K.1 (g := mkF m pc Ls (.int y :: .int x :: st)) rfl (dc K hd) rfl) k
theorem i_ixor (K : Cx p l e R s m meth c Z a0 W own nm bytes ml rt) (X : On p l e R s m args below meth c D Z n0 T A cells slots) {x y : Int32} {pc' : Nat} (hd : decode bytes pc = .ok (.ixor, 1)) (hp : pc + 1 = pc')
    (k : Go p e below (T.setTop (mkF m pc' Ls (.int (x ^^^ y) :: st))) G) : Go p e below (T.setTop (mkF m pc Ls (.int y :: .int x :: st))) G := by
  subst hp; exact go (fun _ => XS.ixor X.here K.1 (g := mkF m pc Ls (.int y :: .int x :: st)) rfl (dc K hd) rfl) k
theorem i_ishl (K : Cx p l e R s m meth c Z a0 W own nm bytes ml rt) (X : On p l e R s m args below meth c D Z n0 T A cells slots) {x y : Int32} {pc' : Nat} (hd : decode bytes pc = .ok (.ishl, 1)) (hp : pc + 1 = pc')
    (k : Go p e below (T.setTop (mkF m pc' Ls (.int (x <<< (y &&& 31)) :: st))) G) : Go p e below (T.setTop (mkF m pc Ls (.int y :: .int x :: st))) G := by
  subst hp; exact go (fun _ => XS.ishl X.here K.1 (g := mkF m pc Ls (.int y :: .int x :: st)) rfl (dc K hd) rfl) k
theorem i_ishr (K : Cx p l e R s m meth c Z a0 W own nm bytes ml rt) (X : On p l e R s m args below meth c D Z n0 T A cells slots) {x y : Int32} {pc' : Nat} (hd : decode bytes pc = .ok (.ishr, 1)) (hp : pc + 1 = pc')
    (k : Go p e below (T.setTop (mkF m pc' Ls (.int (x >>> (y &&& 31)) :: st))) G) : Go p e below (T.setTop (mkF m pc Ls (.int y :: .int x :: st))) G := by
  subst hp; exact go (fun _ => XS.ishr X.here K.1 (g := mkF m pc Ls (.int y :: .int x :: st)) rfl (dc K hd) rfl) k
theorem i_iushr (K : Cx p l e R s m meth c Z a0 W own nm bytes ml rt) (X : On p l e R s m args below meth c D Z n0 T A cells slots) {x y : Int32} {pc' : Nat} (hd : decode bytes pc = .ok (.iushr, 1)) (hp : pc + 1 = pc')
    (k : Go p e below (T.setTop (mkF m pc' Ls (.int ((x.toUInt32 >>> (y &&& 31).toUInt32).toInt32) :: st))) G) : Go p e below (T.setTop (mkF m pc Ls (.int y :: .int x :: st))) G := by
  subst hp; exact go (fun _ => XS.iushr X.here K.1 (g := mkF m pc Ls (.int y :: .int x :: st)) rfl (dc K hd) rfl) k
theorem i_idiv (K : Cx p l e R s m meth c Z a0 W own nm bytes ml rt) (X : On p l e R s m args below meth c D Z n0 T A cells slots) {x y : Int32} {pc' : Nat} (hd : decode bytes pc = .ok (.idiv, 1)) (hp : pc + 1 = pc') (hy : y ≠ 0)
    (k : Go p e below (T.setTop (mkF m pc' Ls (.int (x / y) :: st))) G) : Go p e below (T.setTop (mkF m pc Ls (.int y :: .int x :: st))) G := by
  subst hp; exact go (fun _ => XS.idiv X.here K.1 (g := mkF m pc Ls (.int y :: .int x :: st)) rfl (dc K hd) rfl hy) k
theorem i_irem (K : Cx p l e R s m meth c Z a0 W own nm bytes ml rt) (X : On p l e R s m args below meth c D Z n0 T A cells slots) {x y : Int32} {pc' : Nat} (hd : decode bytes pc = .ok (.irem, 1)) (hp : pc + 1 = pc') (hy : y ≠ 0)
    (k : Go p e below (T.setTop (mkF m pc' Ls (.int (x % y) :: st))) G) : Go p e below (T.setTop (mkF m pc Ls (.int y :: .int x :: st))) G := by
  subst hp; rw [← irem_eq_mod] at k; exact go (fun _ => XS.irem X.here K.1 (g := mkF m pc Ls (.int y :: .int x :: st)) rfl (dc K hd) rfl hy) k
theorem i_ladd (K : Cx p l e R s m meth c Z a0 W own nm bytes ml rt) (X : On p l e R s m args below meth c D Z n0 T A cells slots) {x y : Int64} {pc' : Nat} (hd : decode bytes pc = .ok (.ladd, 1)) (hp : pc + 1 = pc')
    (k : Go p e below (T.setTop (mkF m pc' Ls (.long (x + y) :: st))) G) : Go p e below (T.setTop (mkF m pc Ls (.long y :: .long x :: st))) G := by
  subst hp; exact go (fun _ => XS.ladd X.here K.1 (g := mkF m pc Ls (.long y :: .long x :: st)) rfl (dc K hd) rfl) k
theorem i_lsub (K : Cx p l e R s m meth c Z a0 W own nm bytes ml rt) (X : On p l e R s m args below meth c D Z n0 T A cells slots) {x y : Int64} {pc' : Nat} (hd : decode bytes pc = .ok (.lsub, 1)) (hp : pc + 1 = pc')
    (k : Go p e below (T.setTop (mkF m pc' Ls (.long (x - y) :: st))) G) : Go p e below (T.setTop (mkF m pc Ls (.long y :: .long x :: st))) G := by
  subst hp; exact go (fun _ => XS.lsub X.here K.1 (g := mkF m pc Ls (.long y :: .long x :: st)) rfl (dc K hd) rfl) k
theorem i_lmul (K : Cx p l e R s m meth c Z a0 W own nm bytes ml rt) (X : On p l e R s m args below meth c D Z n0 T A cells slots) {x y : Int64} {pc' : Nat} (hd : decode bytes pc = .ok (.lmul, 1)) (hp : pc + 1 = pc')
    (k : Go p e below (T.setTop (mkF m pc' Ls (.long (x * y) :: st))) G) : Go p e below (T.setTop (mkF m pc Ls (.long y :: .long x :: st))) G := by
  subst hp; exact go (fun _ => XS.lmul X.here K.1 (g := mkF m pc Ls (.long y :: .long x :: st)) rfl (dc K hd) rfl) k
theorem i_land (K : Cx p l e R s m meth c Z a0 W own nm bytes ml rt) (X : On p l e R s m args below meth c D Z n0 T A cells slots) {x y : Int64} {pc' : Nat} (hd : decode bytes pc = .ok (.land, 1)) (hp : pc + 1 = pc')
    (k : Go p e below (T.setTop (mkF m pc' Ls (.long (x &&& y) :: st))) G) : Go p e below (T.setTop (mkF m pc Ls (.long y :: .long x :: st))) G := by
  subst hp; exact go (fun _ => XS.land X.here K.1 (g := mkF m pc Ls (.long y :: .long x :: st)) rfl (dc K hd) rfl) k
theorem i_lor (K : Cx p l e R s m meth c Z a0 W own nm bytes ml rt) (X : On p l e R s m args below meth c D Z n0 T A cells slots) {x y : Int64} {pc' : Nat} (hd : decode bytes pc = .ok (.lor, 1)) (hp : pc + 1 = pc')
    (k : Go p e below (T.setTop (mkF m pc' Ls (.long (x ||| y) :: st))) G) : Go p e below (T.setTop (mkF m pc Ls (.long y :: .long x :: st))) G := by
  subst hp; exact go (fun _ => XS.lor X.here K.1 (g := mkF m pc Ls (.long y :: .long x :: st)) rfl (dc K hd) rfl) k
theorem i_lxor (K : Cx p l e R s m meth c Z a0 W own nm bytes ml rt) (X : On p l e R s m args below meth c D Z n0 T A cells slots) {x y : Int64} {pc' : Nat} (hd : decode bytes pc = .ok (.lxor, 1)) (hp : pc + 1 = pc')
    (k : Go p e below (T.setTop (mkF m pc' Ls (.long (x ^^^ y) :: st))) G) : Go p e below (T.setTop (mkF m pc Ls (.long y :: .long x :: st))) G := by
  subst hp; exact go (fun _ => XS.lxor X.here K.1 (g := mkF m pc Ls (.long y :: .long x :: st)) rfl (dc K hd) rfl) k
theorem i_lshl (K : Cx p l e R s m meth c Z a0 W own nm bytes ml rt) (X : On p l e R s m args below meth c D Z n0 T A cells slots) {x : Int64} {y : Int32} {pc' : Nat} (hd : decode bytes pc = .ok (.lshl, 1)) (hp : pc + 1 = pc')
    (k : Go p e below (T.setTop (mkF m pc' Ls (.long (x <<< (y &&& 0x3f).toInt64) :: st))) G) : Go p e below (T.setTop (mkF m pc Ls (.int y :: .long x :: st))) G := by
  subst hp; exact go (fun _ => XS.lshl X.here K.1 (g := mkF m pc Ls (.int y :: .long x :: st)) rfl (dc K hd) rfl) k
theorem i_lshr (K : Cx p l e R s m meth c Z a0 W own nm bytes ml rt) (X : On p l e R s m args below meth c D Z n0 T A cells slots) {x : Int64} {y : Int32} {pc' : Nat} (hd : decode bytes pc = .ok (.lshr, 1)) (hp : pc + 1 = pc')
    (k : Go p e below (T.setTop (mkF m pc' Ls (.long (x >>> (y &&& 0x3f).toInt64) :: st))) G) : Go p e below (T.setTop (mkF m pc Ls (.int y :: .long x :: st))) G := by
  subst hp; exact go (fun _ => XS.lshr X.here K.1 (g := mkF m pc Ls (.int y :: .long x :: st)) rfl (dc K hd) rfl) k
theorem i_lushr (K : Cx p l e R s m meth c Z a0 W own nm bytes ml rt) (X : On p l e R s m args below meth c D Z n0 T A cells slots) {x : Int64} {y : Int32} {pc' : Nat} (hd : decode bytes pc = .ok (.lushr, 1)) (hp : pc + 1 = pc')
    (k : Go p e below (T.setTop (mkF m pc' Ls (.long ((x.toUInt64 >>> (y &&& 0x3f).toInt64.toUInt64).toInt64) :: st))) G) : Go p e below (T.setTop (mkF m pc Ls (.int y :: .long x :: st))) G := by
  subst hp; exact go (fun _ => XS.lushr X.here K.1 (g := mkF m pc Ls (.int y :: .long x :: st)) rfl (dc K hd) rfl) k
theorem i_ldiv (K : Cx p l e R s m meth c Z a0 W own nm bytes ml rt) (X : On p l e R s m args below meth c D Z n0 T A cells slots) {x y : Int64} {pc' : Nat} (hd : decode bytes pc = .ok (.ldiv, 1)) (hp : pc + 1 = pc') (hy : y ≠ 0)
    (k : Go p e below (T.setTop (mkF m pc' Ls (.long (x / y) :: st))) G) : Go p e below (T.setTop (mkF m pc Ls (.long y :: .long x :: st))) G := by
  subst hp; exact go (fun _ => XS.ldiv X.here K.1 (g := mkF m pc Ls (.long y :: .long x :: st)) rfl (dc K hd) rfl hy) k
theorem i_lrem (K : Cx p l e R s m meth c Z a0 W own nm bytes ml rt) (X : On p l e R s m args below meth c D Z n0 T A cells slots) {x y : Int64} {pc' : Nat} (hd : decode bytes pc = .ok (.lrem, 1)) (hp : pc + 1 = pc') (hy : y ≠ 0)
    (k : Go p e below (T.setTop (mkF m pc' Ls (.long (x - (x / y) * y) :: st))) G) : Go p e below (T.setTop (mkF m pc Ls (.long y :: .long x :: st))) G := by
  subst hp; exact go (fun _ => XS.lrem X.here K.1 (g := mkF m pc Ls (.long y :: .long x :: st)) rfl (dc K hd) rfl hy) k
theorem i_ineg (K : Cx p l e R s m meth c Z a0 W own nm bytes ml rt) (X : On p l e R s m args below meth c D Z n0 T A cells slots) {x : Int32} {pc' : Nat} (hd : decode bytes pc = .ok (.ineg, 1)) (hp : pc + 1 = pc')
    (k : Go p e below (T.setTop (mkF m pc' Ls (.int (-x) :: st))) G) : Go p e below (T.setTop (mkF m pc Ls (.int x :: st))) G := by
  subst hp; exact go (fun _ => XS.ineg X.here K.1 (g := mkF m pc Ls (.int x :: st)) rfl (dc K hd) rfl) k
theorem i_lneg (K : Cx p l e R s m meth c Z a0 W own nm bytes ml rt) (X : On p l e R s m args below meth c D Z n0 T A cells slots) {x : Int64} {pc' : Nat} (hd : decode bytes pc = .ok (.lneg, 1)) (hp : pc + 1 = pc')
    (k : Go p e below (T.setTop (mkF m pc' Ls (.long (-x) :: st))) G) : Go p e below (T.setTop (mkF m pc Ls (.long x :: st))) G := by
  subst hp; exact go (fun _ => XS.lneg X.here K.1 (g := mkF m pc Ls (.long x :: st)) rfl (dc K hd) rfl) k
theorem i_i2b (K : Cx p l e R s m meth c Z a0 W own nm bytes ml rt) (X : On p l e R s m args below meth c D Z n0 T A cells slots) {x : Int32} {pc' : Nat} (hd : decode bytes pc = .ok (.i2b, 1)) (hp : pc + 1 = pc')
    (k : Go p e below (T.setTop (mkF m pc' Ls (.int (x.toInt8.toInt32) :: st))) G) : Go p e below (T.setTop (mkF m pc Ls (.int x :: st))) G := by
  subst hp; exact go (fun _ => XS.i2b X.here K.1 (g := mkF m pc Ls (.int x :: st)) rfl (dc K hd) rfl) k
theorem i_i2c (K : Cx p l e R s m meth c Z a0 W own nm bytes ml rt) (X : On p l e R s m args below meth c D Z n0 T A cells slots) {x : Int32} {pc' : Nat} (hd : decode bytes pc = .ok (.i2c, 1)) (hp : pc + 1 = pc')
    (k : Go p e below (T.setTop (mkF m pc' Ls (.int (x.toUInt32.toUInt16.toUInt32.toInt32) :: st))) G) : Go p e below (T.setTop (mkF m pc Ls (.int x :: st))) G := by
  subst hp; exact go (fun _ => XS.i2c X.here K.1 (g := mkF m pc Ls (.int x :: st)) rfl (dc K hd) rfl) k
theorem i_i2s (K : Cx p l e R s m meth c Z a0 W own nm bytes ml rt) (X : On p l e R s m args below meth c D Z n0 T A cells slots) {x : Int32} {pc' : Nat} (hd : decode bytes pc = .ok (.i2s, 1)) (hp : pc + 1 = pc')
    (k : Go p e below (T.setTop (mkF m pc' Ls (.int (x.toInt16.toInt32) :: st))) G) : Go p e below (T.setTop (mkF m pc Ls (.int x :: st))) G := by
  subst hp; exact go (fun _ => XS.i2s X.here K.1 (g := mkF m pc Ls (.int x :: st)) rfl (dc K hd) rfl) k
theorem i_i2l (K : Cx p l e R s m meth c Z a0 W own nm bytes ml rt) (X : On p l e R s m args below meth c D Z n0 T A cells slots) {x : Int32} {pc' : Nat} (hd : decode bytes pc = .ok (.i2l, 1)) (hp : pc + 1 = pc')
    (k : Go p e below (T.setTop (mkF m pc' Ls (.long (x.toInt64) :: st))) G) : Go p e below (T.setTop (mkF m pc Ls (.int x :: st))) G := by
  subst hp; exact go (fun _ => XS.i2l X.here K.1 (g := mkF m pc Ls (.int x :: st)) rfl (dc K hd) rfl) k
theorem i_l2i (K : Cx p l e R s m meth c Z a0 W own nm bytes ml rt) (X : On p l e R s m args below meth c D Z n0 T A cells slots) {x : Int64} {pc' : Nat} (hd : decode bytes pc = .ok (.l2i, 1)) (hp : pc + 1 = pc')
    (k : Go p e below (T.setTop (mkF m pc' Ls (.int (x.toInt32) :: st))) G) : Go p e below (T.setTop (mkF m pc Ls (.long x :: st))) G := by
  subst hp; exact go (fun _ => XS.l2i X.here K.1 (g := mkF m pc Ls (.long x :: st)) rfl (dc K hd) rfl) k
theorem i_lcmp (K : Cx p l e R s m meth c Z a0 W own nm bytes ml rt) (X : On p l e R s m args below meth c D Z n0 T A cells slots) {x y : Int64} {pc' : Nat} (hd : decode bytes pc = .ok (.lcmp, 1)) (hp : pc + 1 = pc')
    (k : Go p e below (T.setTop (mkF m pc' Ls (.int (lcmpW x y) :: st))) G) : Go p e below (T.setTop (mkF m pc Ls (.long y :: .long x :: st))) G := by
  subst hp; exact go (fun _ => XS.lcmp X.here K.1 (g := mkF m pc Ls (.long y :: .long x :: st)) rfl (dc K hd) rfl) k
theorem i_pop (K : Cx p l e R s m meth c Z a0 W own nm bytes ml rt) (X : On p l e R s m args below meth c D Z n0 T A cells slots) {x : Value} {pc' : Nat} (hd : decode bytes pc = .ok (.pop, 1)) (hp : pc + 1 = pc') (h1 : x.category = 1)
    (k : Go p e below (T.setTop (mkF m pc' Ls (st))) G) : Go p e below (T.setTop (mkF m pc Ls (x :: st))) G := by
  subst hp; exact go (fun _ => XS.pop X.here K.1 (g := mkF m pc Ls (x :: st)) rfl (dc K hd) rfl h1) k
theorem i_dup (K : Cx p l e R s m meth c Z a0 W own nm bytes ml rt) (X : On p l e R s m args below meth c D Z n0 T A cells slots) {x : Value} {pc' : Nat} (hd : decode bytes pc = .ok (.dup, 1)) (hp : pc + 1 = pc') (h1 : x.category = 1)
    (k : Go p e below (T.setTop (mkF m pc' Ls (x :: x :: st))) G) : Go p e below (T.setTop (mkF m pc Ls (x :: st))) G := by
  subst hp; exact go (fun _ => XS.dup X.here K.1 (g := mkF m pc Ls (x :: st)) rfl (dc K hd) rfl h1) k
theorem i_dupX1 (K : Cx p l e R s m meth c Z a0 W own nm bytes ml rt) (X : On p l e R s m args below meth c D Z n0 T A cells slots) {x y : Value} {pc' : Nat} (hd : decode bytes pc = .ok (.dup_x1, 1)) (hp : pc + 1 = pc') (h1 : x.category = 1) (h2 : y.category = 1)
    (k : Go p e below (T.setTop (mkF m pc' Ls (x :: y :: x :: st))) G) : Go p e below (T.setTop (mkF m pc Ls (x :: y :: st))) G := by
  subst hp; exact go (fun _ => XS.dupX1 X.here K.1 (g := mkF m pc Ls (x :: y :: st)) rfl (dc K hd) rfl h1 h2) k
theorem i_swap (K : Cx p l e R s m meth c Z a0 W own nm bytes ml rt) (X : On p l e R s m args below meth c D Z n0 T A cells slots) {x y : Value} {pc' : Nat} (hd : decode bytes pc = .ok (.swap, 1)) (hp : pc + 1 = pc') (h1 : x.category = 1) (h2 : y.category = 1)
    (k : Go p e below (T.setTop (mkF m pc' Ls (y :: x :: st))) G) : Go p e below (T.setTop (mkF m pc Ls (x :: y :: st))) G := by
  subst hp; exact go (fun _ => XS.swap X.here K.1 (g := mkF m pc Ls (x :: y :: st)) rfl (dc K hd) rfl h1 h2) k
theorem i_iload (K : Cx p l e R s m meth c Z a0 W own nm bytes ml rt) (X : On p l e R s m args below meth c D Z n0 T A cells slots) {v : Int32} {i : Nat} {pc' : Nat} (hd : decode bytes pc = .ok (.iload i, 2)) (hp : pc + 2 = pc') (hl : Ls[i]? = some (.val (.int v)))
    (k : Go p e below (T.setTop (mkF m pc' Ls (.int v :: st))) G) : Go p e below (T.setTop (mkF m pc Ls (st))) G := by
  subst hp; exact go (fun _ => XS.iload X.here K.1 (g := mkF m pc Ls (st)) rfl (dc K hd) hl) k
theorem i_iloadN (K : Cx p l e R s m meth c Z a0 W own nm bytes ml rt) (X : On p l e R s m args below meth c D Z n0 T A cells slots) {v : Int32} {i : Fin 4} {pc' : Nat} (hd : decode bytes pc = .ok (.iload_n i, 1)) (hp : pc + 1 = pc') (hl : Ls[i.val]? = some (.val (.int v)))
    (k : Go p e below (T.setTop (mkF m pc' Ls (.int v :: st))) G) : Go p e below (T.setTop (mkF m pc Ls (st))) G := by
  subst hp; exact go (fun _ => XS.iloadN X.here K.1 (g := mkF m pc Ls (st)) rfl (dc K hd) hl) k
theorem i_lload (K : Cx p l e R s m meth c Z a0 W own nm bytes ml rt) (X : On p l e R s m args below meth c D Z n0 T A cells slots) {v : Int64} {i : Nat} {pc' : Nat} (hd : decode bytes pc = .ok (.lload i, 2)) (hp : pc + 2 = pc') (hl : Ls[i]? = some (.val (.long v)))
    (k : Go p e below (T.setTop (mkF m pc' Ls (.long v :: st))) G) : Go p e below (T.setTop (mkF m pc Ls (st))) G := by
  subst hp; exact go (fun _ => XS.lload X.here K.1 (g := mkF m pc Ls (st)) rfl (dc K hd) hl) k
theorem i_lloadN (K : Cx p l e R s m meth c Z a0 W own nm bytes ml rt) (X : On p l e R s m args below meth c D Z n0 T A cells slots) {v : Int64} {i : Fin 4} {pc' : Nat} (hd : decode bytes pc = .ok (.lload_n i, 1)) (hp : pc + 1 = pc') (hl : Ls[i.val]? = some (.val (.long v)))
    (k : Go p e below (T.setTop (mkF m pc' Ls (.long v :: st))) G) : Go p e below (T.setTop (mkF m pc Ls (st))) G := by
  subst hp; exact go (fun _ => XS.lloadN X.here K.1 (g := mkF m pc Ls (st)) rfl (dc K hd) hl) k
theorem i_aload (K : Cx p l e R s m meth c Z a0 W own nm bytes ml rt) (X : On p l e R s m args below meth c D Z n0 T A cells slots) {v : Value} {i : Nat} {pc' : Nat} (hd : decode bytes pc = .ok (.aload i, 2)) (hp : pc + 2 = pc') (hl : Ls[i]? = some (.val v)) (hv : v.isRef = true)
    (k : Go p e below (T.setTop (mkF m pc' Ls (v :: st))) G) : Go p e below (T.setTop (mkF m pc Ls (st))) G := by
  subst hp; exact go (fun _ => XS.aload X.here K.1 (g := mkF m pc Ls (st)) rfl (dc K hd) hl hv) k
theorem i_aloadN (K : Cx p l e R s m meth c Z a0 W own nm bytes ml rt) (X : On p l e R s m args below meth c D Z n0 T A cells slots) {v : Value} {i : Fin 4} {pc' : Nat} (hd : decode bytes pc = .ok (.aload_n i, 1)) (hp : pc + 1 = pc') (hl : Ls[i.val]? = some (.val v)) (hv : v.isRef = true)
    (k : Go p e below (T.setTop (mkF m pc' Ls (v :: st))) G) : Go p e below (T.setTop (mkF m pc Ls (st))) G := by
  subst hp; exact go (fun _ => XS.aloadN X.here K.1 (g := mkF m pc Ls (st)) rfl (dc K hd) hl hv) k
theorem i_istore (K : Cx p l e R s m meth c Z a0 W own nm bytes ml rt) (X : On p l e R s m args below meth c D Z n0 T A cells slots) {v : Int32} {i : Nat} {Ls' : Array Slot} {pc' : Nat} (hd : decode bytes pc = .ok (.istore i, 2)) (hp : pc + 2 = pc') (hl : storeLocals Ls i (.int v) = some Ls')
    (k : Go p e below (T.setTop (mkF m pc' Ls' (st))) G) : Go p e below (T.setTop (mkF m pc Ls (.int v :: st))) G := by
  subst hp; exact go (fun _ => XS.istore X.here K.1 (g := mkF m pc Ls (.int v :: st)) rfl (dc K hd) rfl hl) k
theorem i_istoreN (K : Cx p l e R s m meth c Z a0 W own nm bytes ml rt) (X : On p l e R s m args below meth c D Z n0 T A cells slots) {v : Int32} {i : Fin 4} {Ls' : Array Slot} {pc' : Nat} (hd : decode bytes pc = .ok (.istore_n i, 1)) (hp : pc + 1 = pc') (hl : storeLocals Ls i.val (.int v) = some Ls')
    (k : Go p e below (T.setTop (mkF m pc' Ls' (st))) G) : Go p e below (T.setTop (mkF m pc Ls (.int v :: st))) G := by
  subst hp; exact go (fun _ => XS.istoreN X.here K.1 (g := mkF m pc Ls (.int v :: st)) rfl (dc K hd) rfl hl) k
theorem i_lstore (K : Cx p l e R s m meth c Z a0 W own nm bytes ml rt) (X : On p l e R s m args below meth c D Z n0 T A cells slots) {v : Int64} {i : Nat} {Ls' : Array Slot} {pc' : Nat} (hd : decode bytes pc = .ok (.lstore i, 2)) (hp : pc + 2 = pc') (hl : storeLocals Ls i (.long v) = some Ls')
    (k : Go p e below (T.setTop (mkF m pc' Ls' (st))) G) : Go p e below (T.setTop (mkF m pc Ls (.long v :: st))) G := by
  subst hp; exact go (fun _ => XS.lstore X.here K.1 (g := mkF m pc Ls (.long v :: st)) rfl (dc K hd) rfl hl) k
theorem i_lstoreN (K : Cx p l e R s m meth c Z a0 W own nm bytes ml rt) (X : On p l e R s m args below meth c D Z n0 T A cells slots) {v : Int64} {i : Fin 4} {Ls' : Array Slot} {pc' : Nat} (hd : decode bytes pc = .ok (.lstore_n i, 1)) (hp : pc + 1 = pc') (hl : storeLocals Ls i.val (.long v) = some Ls')
    (k : Go p e below (T.setTop (mkF m pc' Ls' (st))) G) : Go p e below (T.setTop (mkF m pc Ls (.long v :: st))) G := by
  subst hp; exact go (fun _ => XS.lstoreN X.here K.1 (g := mkF m pc Ls (.long v :: st)) rfl (dc K hd) rfl hl) k
theorem i_astore (K : Cx p l e R s m meth c Z a0 W own nm bytes ml rt) (X : On p l e R s m args below meth c D Z n0 T A cells slots) {v : Value} {i : Nat} {Ls' : Array Slot} {pc' : Nat} (hd : decode bytes pc = .ok (.astore i, 2)) (hp : pc + 2 = pc') (hl : storeLocals Ls i v = some Ls') (hv : v.isRef = true)
    (k : Go p e below (T.setTop (mkF m pc' Ls' (st))) G) : Go p e below (T.setTop (mkF m pc Ls (v :: st))) G := by
  subst hp; exact go (fun _ => XS.astore X.here K.1 (g := mkF m pc Ls (v :: st)) rfl (dc K hd) rfl hv hl) k
theorem i_astoreN (K : Cx p l e R s m meth c Z a0 W own nm bytes ml rt) (X : On p l e R s m args below meth c D Z n0 T A cells slots) {v : Value} {i : Fin 4} {Ls' : Array Slot} {pc' : Nat} (hd : decode bytes pc = .ok (.astore_n i, 1)) (hp : pc + 1 = pc') (hl : storeLocals Ls i.val v = some Ls') (hv : v.isRef = true)
    (k : Go p e below (T.setTop (mkF m pc' Ls' (st))) G) : Go p e below (T.setTop (mkF m pc Ls (v :: st))) G := by
  subst hp; exact go (fun _ => XS.astoreN X.here K.1 (g := mkF m pc Ls (v :: st)) rfl (dc K hd) rfl hv hl) k
theorem i_iconst (K : Cx p l e R s m meth c Z a0 W own nm bytes ml rt) (X : On p l e R s m args below meth c D Z n0 T A cells slots) {i : Int} {v : Int32} {pc' : Nat} (hd : decode bytes pc = .ok (.iconst i, 1)) (hp : pc + 1 = pc') (hv : Int32.ofInt i = v)
    (k : Go p e below (T.setTop (mkF m pc' Ls (.int v :: st))) G) : Go p e below (T.setTop (mkF m pc Ls st)) G := by
  subst hp hv; exact go (fun _ => XS.iconst X.here K.1 (g := mkF m pc Ls st) rfl (dc K hd)) k
theorem i_bipush (K : Cx p l e R s m meth c Z a0 W own nm bytes ml rt) (X : On p l e R s m args below meth c D Z n0 T A cells slots) {i : Int} {v : Int32} {pc' : Nat} (hd : decode bytes pc = .ok (.bipush i, 2)) (hp : pc + 2 = pc') (hv : (Int8.ofInt i).toInt32 = v)
    (k : Go p e below (T.setTop (mkF m pc' Ls (.int v :: st))) G) : Go p e below (T.setTop (mkF m pc Ls st)) G := by
  subst hp hv; exact go (fun _ => XS.bipush X.here K.1 (g := mkF m pc Ls st) rfl (dc K hd)) k
theorem i_sipush (K : Cx p l e R s m meth c Z a0 W own nm bytes ml rt) (X : On p l e R s m args below meth c D Z n0 T A cells slots) {i : Int} {v : Int32} {pc' : Nat} (hd : decode bytes pc = .ok (.sipush i, 3)) (hp : pc + 3 = pc') (hv : (Int16.ofInt i).toInt32 = v)
    (k : Go p e below (T.setTop (mkF m pc' Ls (.int v :: st))) G) : Go p e below (T.setTop (mkF m pc Ls st)) G := by
  subst hp hv; exact go (fun _ => XS.sipush X.here K.1 (g := mkF m pc Ls st) rfl (dc K hd)) k
theorem i_lconst (K : Cx p l e R s m meth c Z a0 W own nm bytes ml rt) (X : On p l e R s m args below meth c D Z n0 T A cells slots) {i : Fin 2} {v : Int64} {pc' : Nat} (hd : decode bytes pc = .ok (.lconst i, 1)) (hp : pc + 1 = pc') (hv : Int64.ofNat i = v)
    (k : Go p e below (T.setTop (mkF m pc' Ls (.long v :: st))) G) : Go p e below (T.setTop (mkF m pc Ls st)) G := by
  subst hp hv; exact go (fun _ => XS.lconst X.here K.1 (g := mkF m pc Ls st) rfl (dc K hd)) k
theorem i_aconstNull (K : Cx p l e R s m meth c Z a0 W own nm bytes ml rt) (X : On p l e R s m args below meth c D Z n0 T A cells slots)  {pc' : Nat} (hd : decode bytes pc = .ok (.aconst_null, 1)) (hp : pc + 1 = pc')
    (k : Go p e below (T.setTop (mkF m pc' Ls (.null :: st))) G) : Go p e below (T.setTop (mkF m pc Ls (st))) G := by
  subst hp; exact go (fun _ => XS.aconstNull X.here K.1 (g := mkF m pc Ls (st)) rfl (dc K hd)) k
theorem i_iinc (K : Cx p l e R s m meth c Z a0 W own nm bytes ml rt) (X : On p l e R s m args below meth c D Z n0 T A cells slots) {x y : Int32} {i : Nat} {cst : Int} {Ls' : Array Slot} {pc' : Nat} (hd : decode bytes pc = .ok (.iinc i cst, 3)) (hp : pc + 3 = pc') (hl : Ls[i]? = some (.val (.int x))) (hy : Int32.ofInt cst = y) (hl' : storeLocals Ls i (.int (x + y)) = some Ls')
    (k : Go p e below (T.setTop (mkF m pc' Ls' st)) G) : Go p e below (T.setTop (mkF m pc Ls st)) G := by
  subst hp hy; exact go (fun _ => XS.iinc X.here K.1 (g := mkF m pc Ls st) rfl (dc K hd) hl hl') k
theorem i_goto (K : Cx p l e R s m meth c Z a0 W own nm bytes ml rt) (X : On p l e R s m args below meth c D Z n0 T A cells slots)  {o : Int} {pc' : Nat} (hd : decode bytes pc = .ok (.goto o, 3))  (ho : 0 ≤ (pc : Int) + o) (hp : ((pc : Int) + o).toNat = pc')
    (k : Go p e below (T.setTop (mkF m pc' Ls st)) G) : Go p e below (T.setTop (mkF m pc Ls (st))) G := by
  exact go (fun _ => XS.goto X.here K.1 (g := mkF m pc Ls (st)) rfl (pc0 := pc) (pc' := pc') rfl (dc K hd)  ho hp) k
theorem i_ifYes (K : Cx p l e R s m meth c Z a0 W own nm bytes ml rt) (X : On p l e R s m args below meth c D Z n0 T A cells slots) {cd : ClassFile.Cond} {x : Int32} {o : Int} {pc' : Nat} (hd : decode bytes pc = .ok (.ifCond cd o, 3)) (h : if_icmp.holds cd x 0 = true) (ho : 0 ≤ (pc : Int) + o) (hp : ((pc : Int) + o).toNat = pc')
    (k : Go p e below (T.setTop (mkF m pc' Ls st)) G) : Go p e below (T.setTop (mkF m pc Ls (.int x :: st))) G := by
  exact go (fun _ => XS.ifYes X.here K.1 (g := mkF m pc Ls (.int x :: st)) rfl (pc0 := pc) (pc' := pc') rfl (dc K hd) rfl ((if0 _ _).trans h) ho hp) k
theorem i_icmpYes (K : Cx p l e R s m meth c Z a0 W own nm bytes ml rt) (X : On p l e R s m args below meth c D Z n0 T A cells slots) {cd : ClassFile.Cond} {x y : Int32} {o : Int} {pc' : Nat} (hd : decode bytes pc = .ok (.if_icmp cd o, 3)) (h : if_icmp.holds cd x y = true) (ho : 0 ≤ (pc : Int) + o) (hp : ((pc : Int) + o).toNat = pc')
    (k : Go p e below (T.setTop (mkF m pc' Ls st)) G) : Go p e below (T.setTop (mkF m pc Ls (.int y :: .int x :: st))) G := by
  exact go (fun _ => XS.icmpYes X.here K.1 (g := mkF m pc Ls (.int y :: .int x :: st)) rfl (pc0 := pc) (pc' := pc') rfl (dc K hd) rfl h ho hp) k
theorem i_ifNo (K : Cx p l e R s m meth c Z a0 W own nm bytes ml rt) (X : On p l e R s m args below meth c D Z n0 T A cells slots) {cd : ClassFile.Cond} {x : Int32} {o : Int} {pc' : Nat} (hd : decode bytes pc = .ok (.ifCond cd o, 3)) (hp : pc + 3 = pc') (h : if_icmp.holds cd x 0 = false)
    (k : Go p e below (T.setTop (mkF m pc' Ls (st))) G) : Go p e below (T.setTop (mkF m pc Ls (.int x :: st))) G := by
  subst hp; exact go (fun _ => XS.ifNo X.here K.1 (g := mkF m pc Ls (.int x :: st)) rfl (dc K hd) rfl ((if0 _ _).trans h)) k
theorem i_icmpNo (K : Cx p l e R s m meth c Z a0 W own nm bytes ml rt) (X : On p l e R s m args below meth c D Z n0 T A cells slots) {cd : ClassFile.Cond} {x y : Int32} {o : Int} {pc' : Nat} (hd : decode bytes pc = .ok (.if_icmp cd o, 3)) (hp : pc + 3 = pc') (h : if_icmp.holds cd x y = false)
    (k : Go p e below (T.setTop (mkF m pc' Ls (st))) G) : Go p e below (T.setTop (mkF m pc Ls (.int y :: .int x :: st))) G := by
  subst hp; exact go (fun _ => XS.icmpNo X.here K.1 (g := mkF m pc Ls (.int y :: .int x :: st)) rfl (dc K hd) rfl h) k
theorem i_ifnullYes (K : Cx p l e R s m meth c Z a0 W own nm bytes ml rt) (X : On p l e R s m args below meth c D Z n0 T A cells slots)  {o : Int} {pc' : Nat} (hd : decode bytes pc = .ok (.ifnull o, 3))  (ho : 0 ≤ (pc : Int) + o) (hp : ((pc : Int) + o).toNat = pc')
    (k : Go p e below (T.setTop (mkF m pc' Ls st)) G) : Go p e below (T.setTop (mkF m pc Ls (.null :: st))) G := by
  exact go (fun _ => XS.ifnullYes X.here K.1 (g := mkF m pc Ls (.null :: st)) rfl (pc0 := pc) (pc' := pc') rfl (dc K hd) rfl ho hp) k
theorem i_ifnullNo (K : Cx p l e R s m meth c Z a0 W own nm bytes ml rt) (X : On p l e R s m args below meth c D Z n0 T A cells slots) {b : Addr} {o : Int} {pc' : Nat} (hd : decode bytes pc = .ok (.ifnull o, 3)) (hp : pc + 3 = pc')
    (k : Go p e below (T.setTop (mkF m pc' Ls (st))) G) : Go p e below (T.setTop (mkF m pc Ls (.ref b :: st))) G := by
  subst hp; exact go (fun _ => XS.ifnullNo X.here K.1 (g := mkF m pc Ls (.ref b :: st)) rfl (dc K hd) rfl) k
theorem i_ifnonnullYes (K : Cx p l e R s m meth c Z a0 W own nm bytes ml rt) (X : On p l e R s m args below meth c D Z n0 T A cells slots) {b : Addr} {o : Int} {pc' : Nat} (hd : decode bytes pc = .ok (.ifnonnull o, 3))  (ho : 0 ≤ (pc : Int) + o) (hp : ((pc : Int) + o).toNat = pc')
    (k : Go p e below (T.setTop (mkF m pc' Ls st)) G) : Go p e below (T.setTop (mkF m pc Ls (.ref b :: st))) G := by
  exact go (fun _ => XS.ifnonnullYes X.here K.1 (g := mkF m pc Ls (.ref b :: st)) rfl (pc0 := pc) (pc' := pc') rfl (dc K hd) rfl ho hp) k
theorem i_ifnonnullNo (K : Cx p l e R s m meth c Z a0 W own nm bytes ml rt) (X : On p l e R s m args below meth c D Z n0 T A cells slots) {o : Int} {pc' : Nat} (hd : decode bytes pc = .ok (.ifnonnull o, 3)) (hp : pc + 3 = pc')
    (k : Go p e below (T.setTop (mkF m pc' Ls (st))) G) : Go p e below (T.setTop (mkF m pc Ls (.null :: st))) G := by
  subst hp; exact go (fun _ => XS.ifnonnullNo X.here K.1 (g := mkF m pc Ls (.null :: st)) rfl (dc K hd) rfl) k
theorem i_dup2 (K : Cx p l e R s m meth c Z a0 W own nm bytes ml rt) (X : On p l e R s m args below meth c D Z n0 T A cells slots) {x y : Value} {pc' : Nat} (hd : decode bytes pc = .ok (.dup2, 1)) (hp : pc + 1 = pc') (h1 : x.category = 1) (h2 : y.category = 1)
    (k : Go p e below (T.setTop (mkF m pc' Ls (x :: y :: x :: y :: st))) G) : Go p e below (T.setTop (mkF m pc Ls (x :: y :: st))) G := by
  subst hp; exact go (fun _ => Jvm.Free.XT.dup2 X.here K.1 (g := mkF m pc Ls (x :: y :: st)) rfl (dc K hd) rfl h1 h2) k
theorem i_dup2L (K : Cx p l e R s m meth c Z a0 W own nm bytes ml rt) (X : On p l e R s m args below meth c D Z n0 T A cells slots) {x : Int64} {pc' : Nat} (hd : decode bytes pc = .ok (.dup2, 1)) (hp : pc + 1 = pc') 
    (k : Go p e below (T.setTop (mkF m pc' Ls (.long x :: .long x :: st))) G) : Go p e below (T.setTop (mkF m pc Ls (.long x :: st))) G := by
  subst hp; exact go (fun _ => Jvm.Free.XT.dup2L X.here K.1 (g := mkF m pc Ls (.long x :: st)) rfl (dc K hd) rfl) k
theorem i_dupX2 (K : Cx p l e R s m meth c Z a0 W own nm bytes ml rt) (X : On p l e R s m args below meth c D Z n0 T A cells slots) {x : Int32} {y : Int32} {z : Addr} {pc' : Nat} (hd : decode bytes pc = .ok (.dup_x2, 1)) (hp : pc + 1 = pc')
    (k : Go p e below (T.setTop (mkF m pc' Ls (.int x :: .int y :: .ref z :: .int x :: st))) G) : Go p e below (T.setTop (mkF m pc Ls (.int x :: .int y :: .ref z :: st))) G := by
  subst hp
  refine go (fun t hk => ?_) k
  have hdc := dc K hd
  jvm_step X.here [X.here.top, K.1, hdc, Value.category]
  exact hk
theorem i_dup2X1 (K : Cx p l e R s m meth c Z a0 W own nm bytes ml rt) (X : On p l e R s m args below meth c D Z n0 T A cells slots) {x : Int64} {z : Addr} {pc' : Nat} (hd : decode bytes pc = .ok (.dup2_x1, 1)) (hp : pc + 1 = pc')
    (k : Go p e below (T.setTop (mkF m pc' Ls (.long x :: .ref z :: .long x :: st))) G) : Go p e below (T.setTop (mkF m pc Ls (.long x :: .ref z :: st))) G := by
  subst hp
  refine go (fun t hk => ?_) k
  have hdc := dc K hd
  jvm_step X.here [X.here.top, K.1, hdc, Value.category]
  exact hk
theorem i_dup2X2 (K : Cx p l e R s m meth c Z a0 W own nm bytes ml rt) (X : On p l e R s m args below meth c D Z n0 T A cells slots) {x : Int64} {y : Int32} {z : Addr} {pc' : Nat} (hd : decode bytes pc = .ok (.dup2_x2, 1)) (hp : pc + 1 = pc')
    (k : Go p e below (T.setTop (mkF m pc' Ls (.long x :: .int y :: .ref z :: .long x :: st))) G) : Go p e below (T.setTop (mkF m pc Ls (.long x :: .int y :: .ref z :: st))) G := by
  subst hp
  refine go (fun t hk => ?_) k
  have hdc := dc K hd
  jvm_step X.here [X.here.top, K.1, hdc, Value.category]
  exact hk
theorem stOne {Ls Ls' : Array Slot} {i : Nat} {v : Value} {o : Slot} (h : One o) (hold : Ls[i]? = some o) (hv : v.category = 1) (e : Ls.setIfInBounds i (.val v) = Ls') : storeLocals Ls i v = some Ls' := by
  rw [← e]; exact XS.store1 hold h hv
theorem bs {α β : Type} {o : Option α} {f : α → Option β} {b : β} (h : o.bind f = some b) : ∃ a, o = some a ∧ f a = some b := Option.bind_eq_some_iff.mp h
end Instr
end Jvm.OwnKit
namespace Jvm.Pilot.@@N@@
open Jvm Jvm.ClassFile Sem Op Lib Jvm.Free Jvm.Stand Jvm.LawKit Jvm.RoadKit Jvm.OwnKit Bundle Jvm.Pilot.@@N@@.Jvm.D
def own_D : Dic
  | 10 => ("com/example/runnel/runnel/io/LineCounter", [("com/example/runnel/runnel/io/LineCounter", "unwrittenFirstColumn", "J"), ("com/example/runnel/runnel/io/LineCounter", "earlierLineNumbers", "[J"), ("com/example/runnel/runnel/io/LineCounter", "earlierColumns", "[J"), ("com/example/runnel/runnel/io/LineCounter", "lineNumber", "J"), ("com/example/runnel/runnel/io/LineCounter", "column", "J"), ("com/example/runnel/runnel/io/LineCounter", "afterCarriageReturn", "Z"), ("com/example/runnel/runnel/io/LineCounter", "top", "I"), ("com/example/runnel/runnel/io/LineCounter", "held", "I"), ("com/example/runnel/runnel/io/LineCounter", "unwrittenLine", "J")])
  | _ => ("", [])
theorem own_sep {Z : State} {a0 : Array Value} (hw : ∀ d ∈ tables_1, d.before a0 Z = true) : ∀ t, Sep Z (own_D t).2 := by
  intro t
  unfold own_D
  split
  · refine sep_of (a0 := a0) (C := "com/example/runnel/runnel/io/LineCounter") (fun x hx => ?_) (by decide)
    simp only [List.mem_cons, List.not_mem_nil, or_false] at hx
    rcases hx with rfl | rfl | rfl | rfl | rfl | rfl | rfl | rfl | rfl
    · exact ⟨Or.inl (hw _ (List.mem_of_getElem? (i := 16) rfl)), by decide⟩
    · exact ⟨Or.inr (hw _ (List.mem_of_getElem? (i := 19) rfl)), by decide⟩
    · exact ⟨Or.inr (hw _ (List.mem_of_getElem? (i := 21) rfl)), by decide⟩
    · exact ⟨Or.inl (hw _ (List.mem_of_getElem? (i := 41) rfl)), by decide⟩
    · exact ⟨Or.inl (hw _ (List.mem_of_getElem? (i := 53) rfl)), by decide⟩
    · exact ⟨Or.inl (hw _ (List.mem_of_getElem? (i := 69) rfl)), by decide⟩
    · exact ⟨Or.inl (hw _ (List.mem_of_getElem? (i := 82) rfl)), by decide⟩
    · exact ⟨Or.inl (hw _ (List.mem_of_getElem? (i := 84) rfl)), by decide⟩
    · exact ⟨Or.inl (hw _ (List.mem_of_getElem? (i := 86) rfl)), by decide⟩
  · exact Sep.nil
def own_ds10 : List Value := [(.long 0), .null, .null, (.long 0), (.long 0), (.int 0), (.int 0), (.int 0), (.long 0)]
theorem own_dsL10 {p : Program} {l : Launch} {e : Env} {R : Room} {s : State} {m : MethodId} {meth : Method} {c : Code} {Z : State} {a0 : Array Value} {own nm : String} {bytes : ByteArray} {ml n0 : Nat} {rt : Option FieldType} (K : Cx p l e R s m meth c Z a0 tables_1 own nm bytes ml rt) : ∀ (k : Nat) (O f d : String) (v : Value), (own_D 10).2[k]? = some (O, f, d) → own_ds10[k]? = some v → ∃ ty, parseFieldDescriptor d = some ty ∧ Laid Z a0 (own_D 10).1 O f d ∧ lf n0 v = defaultValue ty := by
  intro k O f d v h1 h2
  rcases k with _ | _ | _ | _ | _ | _ | _ | _ | _ |  k
  · simp only [own_D, own_ds10, List.getElem?_cons_zero, List.getElem?_cons_succ, Option.some.injEq, Prod.mk.injEq] at h1 h2
    obtain ⟨rfl, rfl, rfl⟩ := h1; subst h2
    exact ⟨.long, by decide, Or.inl (wd K (i := 16) rfl), rfl⟩
  · simp only [own_D, own_ds10, List.getElem?_cons_zero, List.getElem?_cons_succ, Option.some.injEq, Prod.mk.injEq] at h1 h2
    obtain ⟨rfl, rfl, rfl⟩ := h1; subst h2
    exact ⟨(.array .long), by decide, Or.inr (wd K (i := 19) rfl), rfl⟩
  · simp only [own_D, own_ds10, List.getElem?_cons_zero, List.getElem?_cons_succ, Option.some.injEq, Prod.mk.injEq] at h1 h2
    obtain ⟨rfl, rfl, rfl⟩ := h1; subst h2
    exact ⟨(.array .long), by decide, Or.inr (wd K (i := 21) rfl), rfl⟩
  · simp only [own_D, own_ds10, List.getElem?_cons_zero, List.getElem?_cons_succ, Option.some.injEq, Prod.mk.injEq] at h1 h2
    obtain ⟨rfl, rfl, rfl⟩ := h1; subst h2
    exact ⟨.long, by decide, Or.inl (wd K (i := 41) rfl), rfl⟩
  · simp only [own_D, own_ds10, List.getElem?_cons_zero, List.getElem?_cons_succ, Option.some.injEq, Prod.mk.injEq] at h1 h2
    obtain ⟨rfl, rfl, rfl⟩ := h1; subst h2
    exact ⟨.long, by decide, Or.inl (wd K (i := 53) rfl), rfl⟩
  · simp only [own_D, own_ds10, List.getElem?_cons_zero, List.getElem?_cons_succ, Option.some.injEq, Prod.mk.injEq] at h1 h2
    obtain ⟨rfl, rfl, rfl⟩ := h1; subst h2
    exact ⟨.boolean, by decide, Or.inl (wd K (i := 69) rfl), rfl⟩
  · simp only [own_D, own_ds10, List.getElem?_cons_zero, List.getElem?_cons_succ, Option.some.injEq, Prod.mk.injEq] at h1 h2
    obtain ⟨rfl, rfl, rfl⟩ := h1; subst h2
    exact ⟨.int, by decide, Or.inl (wd K (i := 82) rfl), rfl⟩
  · simp only [own_D, own_ds10, List.getElem?_cons_zero, List.getElem?_cons_succ, Option.some.injEq, Prod.mk.injEq] at h1 h2
    obtain ⟨rfl, rfl, rfl⟩ := h1; subst h2
    exact ⟨.int, by decide, Or.inl (wd K (i := 84) rfl), rfl⟩
  · simp only [own_D, own_ds10, List.getElem?_cons_zero, List.getElem?_cons_succ, Option.some.injEq, Prod.mk.injEq] at h1 h2
    obtain ⟨rfl, rfl, rfl⟩ := h1; subst h2
    exact ⟨.long, by decide, Or.inl (wd K (i := 86) rfl), rfl⟩
  · simp [own_D] at h1
section OwnWalk
variable {p : Program} {l : Launch} {e : Env} {s : State} {m : MethodId} {args : Array Value} {below : List Frame} {meth : Method} {c : Code} {Z : State} {a0 : Array Value} {n0 : Nat} {T : State} {A : AH} {cells slots : Nat}
/-! body 1: LineCounterEndLastLinePinLaw.ch(I)C -/
theorem d1_0 : decode method_2_code 0 = .ok (.iload_n 0, 1) := by decide +kernel
theorem d1_1 : decode method_2_code 1 = .ok (.iconst 3, 1) := by decide +kernel
theorem d1_2 : decode method_2_code 2 = .ok (.iand, 1) := by decide +kernel
theorem d1_3 : decode method_2_code 3 = .ok (.istore_n 1, 1) := by decide +kernel
theorem d1_4 : decode method_2_code 4 = .ok (.iload_n 1, 1) := by decide +kernel
theorem d1_5 : decode method_2_code 5 = .ok (.ifCond .ne 6, 3) := by decide +kernel
theorem d1_8 : decode method_2_code 8 = .ok (.bipush 10, 2) := by decide +kernel
theorem d1_10 : decode method_2_code 10 = .ok (.ireturn, 1) := by decide +kernel
theorem d1_11 : decode method_2_code 11 = .ok (.iload_n 1, 1) := by decide +kernel
theorem d1_12 : decode method_2_code 12 = .ok (.iconst 1, 1) := by decide +kernel
theorem d1_13 : decode method_2_code 13 = .ok (.if_icmp .ne 6, 3) := by decide +kernel
theorem d1_16 : decode method_2_code 16 = .ok (.bipush 13, 2) := by decide +kernel
theorem d1_18 : decode method_2_code 18 = .ok (.ireturn, 1) := by decide +kernel
theorem d1_19 : decode method_2_code 19 = .ok (.iload_n 0, 1) := by decide +kernel
theorem d1_20 : decode method_2_code 20 = .ok (.iconst 2, 1) := by decide +kernel
theorem d1_21 : decode method_2_code 21 = .ok (.iushr, 1) := by decide +kernel
theorem d1_22 : decode method_2_code 22 = .ok (.sipush 255, 3) := by decide +kernel
theorem d1_25 : decode method_2_code 25 = .ok (.iand, 1) := by decide +kernel
theorem d1_26 : decode method_2_code 26 = .ok (.i2c, 1) := by decide +kernel
theorem d1_27 : decode method_2_code 27 = .ok (.ireturn, 1) := by decide +kernel
theorem pd_1 : parseMethodDescriptor "(I)C" = some ⟨[.int], some .char⟩ := by decide +kernel
abbrev own_R1 : Room := { frames := 0, cells := 0, slots := 0, locals := 0 }
def f1_27 (s0 : Int32) : Int32 :=
  (nar .char s0)
set_option maxRecDepth 65536 in
set_option maxHeartbeats 4000000 in
theorem w1_27 (K : Cx p l e own_R1 s m meth c Z a0 tables_1 "com/example/runnel/runnel/io/LineCounterEndLastLinePinLaw" "ch" method_2_code 2 (some .char)) (X : On p l e own_R1 s m args below meth c own_D Z n0 T A cells slots) (i0 : Int32) (i1 : Int32) (s0 : Int32) (hc : cells + 0 ≤ 0) (hs : slots + 0 ≤ 0) :
    Go p e below (T.setTop (mkF m 27 #[.val (.int i0), .val (.int i1)] [(.int s0)])) (Fini own_D Z n0 s own_R1 (some (.int (f1_27 s0))) A) := by
  unfold f1_27
  exact retB K (by simp) X (show cells ≤ 0 by omega) (show slots ≤ 0 by omega) d1_27
def f1_22 (s0 : Int32) : Int32 :=
  f1_27 (((s0 &&& (255 : Int32))).toUInt32.toUInt16.toUInt32.toInt32)
set_option maxRecDepth 65536 in
set_option maxHeartbeats 4000000 in
theorem w1_22 (K : Cx p l e own_R1 s m meth c Z a0 tables_1 "com/example/runnel/runnel/io/LineCounterEndLastLinePinLaw" "ch" method_2_code 2 (some .char)) (X : On p l e own_R1 s m args below meth c own_D Z n0 T A cells slots) (i0 : Int32) (i1 : Int32) (s0 : Int32) (hc : cells + 0 ≤ 0) (hs : slots + 0 ≤ 0) :
    Go p e below (T.setTop (mkF m 22 #[.val (.int i0), .val (.int i1)] [(.int s0)])) (Fini own_D Z n0 s own_R1 (some (.int (f1_22 s0))) A) := by
  unfold f1_22
  refine i_sipush (pc' := 25) (v := (255 : Int32)) K X d1_22 rfl rfl ?_
  refine i_iand (pc' := 26) K X d1_25 rfl ?_
  refine i_i2c (pc' := 27) K X d1_26 rfl ?_
  exact w1_27 K X i0 i1 (((s0 &&& (255 : Int32))).toUInt32.toUInt16.toUInt32.toInt32) (show cells + 0 ≤ 0 by omega) (show slots + 0 ≤ 0 by omega)
def f1_0 (i0 : Int32) : Int32 :=
  if (i0 &&& (3 : Int32)) = (0 : Int32) then ((nar .char (10 : Int32)))
  else (if (i0 &&& (3 : Int32)) = (1 : Int32) then ((nar .char (13 : Int32)))
  else (f1_22 (((i0).toUInt32 >>> ((2 : Int32) &&& 31).toUInt32).toInt32)))
set_option maxRecDepth 65536 in
set_option maxHeartbeats 4000000 in
theorem w1_0 (K : Cx p l e own_R1 s m meth c Z a0 tables_1 "com/example/runnel/runnel/io/LineCounterEndLastLinePinLaw" "ch" method_2_code 2 (some .char)) (X : On p l e own_R1 s m args below meth c own_D Z n0 T A cells slots) (i0 : Int32) (hc : cells + 0 ≤ 0) (hs : slots + 0 ≤ 0) :
    Go p e below (T.setTop (mkF m 0 #[.val (.int i0), .unset] [])) (Fini own_D Z n0 s own_R1 (some (.int (f1_0 i0))) A) := by
  unfold f1_0
  refine i_iloadN (pc' := 1) K X d1_0 rfl rfl ?_
  refine i_iconst (pc' := 2) (v := (3 : Int32)) K X d1_1 rfl rfl ?_
  refine i_iand (pc' := 3) K X d1_2 rfl ?_
  refine i_istoreN (pc' := 4) (Ls' := #[.val (.int i0), .val (.int (i0 &&& (3 : Int32)))]) K X d1_3 rfl rfl ?_
  refine i_iloadN (pc' := 5) K X d1_4 rfl rfl ?_
  by_cases hc5 : (i0 &&& (3 : Int32)) = (0 : Int32)
  · rw [if_pos hc5]
    refine i_ifNo (pc' := 8) K X d1_5 rfl (teq hc5).2 ?_
    refine i_bipush (pc' := 10) (v := (10 : Int32)) K X d1_8 rfl rfl ?_
    exact retB K (by simp) X (show cells ≤ 0 by omega) (show slots ≤ 0 by omega) d1_10
  · rw [if_neg hc5]
    refine i_ifYes (pc' := 11) K X d1_5 (feq hc5).2 (by decide) (by decide) ?_
    refine i_iloadN (pc' := 12) K X d1_11 rfl rfl ?_
    refine i_iconst (pc' := 13) (v := (1 : Int32)) K X d1_12 rfl rfl ?_
    by_cases hc13 : (i0 &&& (3 : Int32)) = (1 : Int32)
    · rw [if_pos hc13]
      refine i_icmpNo (pc' := 16) K X d1_13 rfl (teq hc13).2 ?_
      refine i_bipush (pc' := 18) (v := (13 : Int32)) K X d1_16 rfl rfl ?_
      exact retB K (by simp) X (show cells ≤ 0 by omega) (show slots ≤ 0 by omega) d1_18
    · rw [if_neg hc13]
      refine i_icmpYes (pc' := 19) K X d1_13 (feq hc13).2 (by decide) (by decide) ?_
      refine i_iloadN (pc' := 20) K X d1_19 rfl rfl ?_
      refine i_iconst (pc' := 21) (v := (2 : Int32)) K X d1_20 rfl rfl ?_
      refine i_iushr (pc' := 22) K X d1_21 rfl ?_
      exact w1_22 K X i0 (i0 &&& (3 : Int32)) (((i0).toUInt32 >>> ((2 : Int32) &&& 31).toUInt32).toInt32) (show cells + 0 ≤ 0 by omega) (show slots + 0 ≤ 0 by omega)
theorem pn_1 : plainName "com/example/runnel/runnel/io/LineCounterEndLastLinePinLaw" = true := by first | (simp [plainName, overriddenIn]; done) | decide +kernel
theorem rm1 {l : Launch} {Z : State} {a0 : Array Value} {n0 : Nat} (hw : ∀ d ∈ tables_1, d.before a0 Z = true) (A : AH) (i0 : Int32) :
    Met l own_D Z n0 (⟨"com/example/runnel/runnel/io/LineCounterEndLastLinePinLaw", "ch", "(I)C"⟩ : MethodName) method_2_code 2 (some .char) own_R1 [(.int i0)] A (some (.int (f1_0 i0))) A :=
  met (W := tables_1) (a0 := a0) (own := "com/example/runnel/runnel/io/LineCounterEndLastLinePinLaw") (nm := "ch") (L0 := #[.val (.int i0), .unset]) (plainFor_of_name pn_1) hw rfl rfl (fun m => by first | (simp [entryFrame, mkF, argsToLocals, Value.category]; done) | rfl) (fun p e s m below meth c T K X => w1_0 K X i0 (show 0 + 0 ≤ 0 by decide) (show 0 + 0 ≤ 0 by decide))
/-! body 2: LineCounter.<init>(I)V -/
theorem d2_0 : decode prog_13_method_1_code 0 = .ok (.aload_n 0, 1) := by decide +kernel
theorem d2_1 : decode prog_13_method_1_code 1 = .ok (.invokespecial 1, 3) := by decide +kernel
theorem d2_4 : decode prog_13_method_1_code 4 = .ok (.aload_n 0, 1) := by decide +kernel
theorem d2_5 : decode prog_13_method_1_code 5 = .ok (.ldc2_w 7, 3) := by decide +kernel
theorem d2_8 : decode prog_13_method_1_code 8 = .ok (.putfield 9, 3) := by decide +kernel
theorem d2_11 : decode prog_13_method_1_code 11 = .ok (.aload_n 0, 1) := by decide +kernel
theorem d2_12 : decode prog_13_method_1_code 12 = .ok (.iload_n 1, 1) := by decide +kernel
theorem d2_13 : decode prog_13_method_1_code 13 = .ok (.newarray .long, 2) := by decide +kernel
theorem d2_15 : decode prog_13_method_1_code 15 = .ok (.putfield 15, 3) := by decide +kernel
theorem d2_18 : decode prog_13_method_1_code 18 = .ok (.aload_n 0, 1) := by decide +kernel
theorem d2_19 : decode prog_13_method_1_code 19 = .ok (.iload_n 1, 1) := by decide +kernel
theorem d2_20 : decode prog_13_method_1_code 20 = .ok (.newarray .long, 2) := by decide +kernel
theorem d2_22 : decode prog_13_method_1_code 22 = .ok (.putfield 19, 3) := by decide +kernel
theorem d2_25 : decode prog_13_method_1_code 25 = .ok (.return_, 1) := by decide +kernel
theorem pd_2 : parseMethodDescriptor "(I)V" = some ⟨[.int], none⟩ := by decide +kernel
abbrev own_R2 : Room := { frames := 1, cells := 2, slots := 6, locals := 12 }
def f2_0 (A : AH) (o0 : Nat) (i1 : Int32) : Option (AH) :=
  (h_fset A 10 o0 0 (.long (-1 : Int64))).bind fun A2 =>
  (h_anew A2 3 3 i1 (.long 0)).bind fun q3 =>
  (h_fset q3.2 10 o0 1 (.ref q3.1)).bind fun A4 =>
  (h_anew A4 3 3 i1 (.long 0)).bind fun q5 =>
  (h_fset q5.2 10 o0 2 (.ref q5.1)).bind fun A6 =>
  some A6
set_option maxRecDepth 65536 in
set_option maxHeartbeats 4000000 in
theorem w2_0 (K : Cx p l e own_R2 s m meth c Z a0 tables_1 "com/example/runnel/runnel/io/LineCounter" "<init>" prog_13_method_1_code 2 none) (sep : ∀ t, Sep Z (own_D t).2) (X : On p l e own_R2 s m args below meth c own_D Z n0 T A cells slots) (o0 : Nat) (i1 : Int32) (hc : cells + 2 ≤ 2) (hs : slots + 6 ≤ 6) {q : AH} (hf : f2_0 A o0 i1 = some q) :
    Go p e below (T.setTop (mkF m 0 #[.val (.ref (n0 + o0)), .val (.int i1)] [])) (Fini own_D Z n0 s own_R2 none q) := by
  unfold f2_0 at hf
  refine i_aloadN (pc' := 1) K X d2_0 rfl rfl rfl ?_
  refine obj (pc' := 4) K X (i1 := 11) rfl (i2 := 12) rfl (i3 := 13) rfl d2_1 rfl (by decide) (w := 0) (Nat.le_of_eq rfl) (by decide) rfl (fun T1 X1 => ?_)
  refine i_aloadN (pc' := 5) K X1 d2_4 rfl rfl rfl ?_
  refine ldcL (pc' := 8) (v := (-1 : Int64)) K X1 (i := 14) rfl d2_5 rfl ?_
  obtain ⟨A2, g2, hf⟩ := bs hf
  refine putf (pc' := 11) (va := (.long (-1 : Int64))) K sep X1 (i := 15) rfl d2_8 (t := 10) (f := 0) (by decide) rfl (Or.inl (wd K (i := 16) rfl)) (i2 := 6) rfl (ty := .long) (by decide) rfl rfl g2 rfl (fun T2 X2 => ?_)
  refine i_aloadN (pc' := 12) K X2 d2_11 rfl rfl rfl ?_
  refine i_iloadN (pc' := 13) K X2 d2_12 rfl rfl ?_
  obtain ⟨q3, g3, hf⟩ := bs hf
  refine newa (pc' := 15) K X2 (i1 := 17) (at' := .long) rfl d2_13 (t := 3) (cap := 3) (by decide) (show cells + 1 ≤ 2 by omega) (show slots + 3 ≤ 6 by omega) (by decide) rfl rfl g3 rfl (fun T3 X3 => ?_)
  obtain ⟨A4, g4, hf⟩ := bs hf
  refine putf (pc' := 18) (va := (.ref q3.1)) K sep X3 (i := 18) rfl d2_15 (t := 10) (f := 1) (by decide) rfl (Or.inr ⟨wd K (i := 19) rfl, rfl, rfl⟩) (i2 := 6) rfl (ty := (.array .long)) (by decide) rfl rfl g4 rfl (fun T4 X4 => ?_)
  refine i_aloadN (pc' := 19) K X4 d2_18 rfl rfl rfl ?_
  refine i_iloadN (pc' := 20) K X4 d2_19 rfl rfl ?_
  obtain ⟨q5, g5, hf⟩ := bs hf
  refine newa (pc' := 22) K X4 (i1 := 17) (at' := .long) rfl d2_20 (t := 3) (cap := 3) (by decide) (show cells + 1 + 1 ≤ 2 by omega) (show slots + 3 + 3 ≤ 6 by omega) (by decide) rfl rfl g5 rfl (fun T5 X5 => ?_)
  obtain ⟨A6, g6, hf⟩ := bs hf
  refine putf (pc' := 25) (va := (.ref q5.1)) K sep X5 (i := 20) rfl d2_22 (t := 10) (f := 2) (by decide) rfl (Or.inr ⟨wd K (i := 21) rfl, rfl, rfl⟩) (i2 := 6) rfl (ty := (.array .long)) (by decide) rfl rfl g6 rfl (fun T6 X6 => ?_)
  cases hf
  exact retV K X6 (show cells + 2 ≤ 2 by omega) (show slots + 6 ≤ 6 by omega) d2_25
theorem pn_2 : plainName "com/example/runnel/runnel/io/LineCounter" = true := by first | (simp [plainName, overriddenIn]; done) | decide +kernel
theorem rm2 {l : Launch} {Z : State} {a0 : Array Value} {n0 : Nat} (hw : ∀ d ∈ tables_1, d.before a0 Z = true) (A : AH) (o0 : Nat) (i1 : Int32) {q : AH} (hf : f2_0 A o0 i1 = some q) :
    Met l own_D Z n0 (⟨"com/example/runnel/runnel/io/LineCounter", "<init>", "(I)V"⟩ : MethodName) prog_13_method_1_code 2 none own_R2 [(.ref (n0 + o0)), (.int i1)] A none q :=
  met (W := tables_1) (a0 := a0) (own := "com/example/runnel/runnel/io/LineCounter") (nm := "<init>") (L0 := #[.val (.ref (n0 + o0)), .val (.int i1)]) (plainFor_of_name pn_2) hw rfl rfl (fun m => by first | (simp [entryFrame, mkF, argsToLocals, Value.category]; done) | rfl) (fun p e s m below meth c T K X => w2_0 K (own_sep hw) X o0 i1 (show 0 + 2 ≤ 2 by decide) (show 0 + 6 ≤ 6 by decide) hf)
/-! body 5: Math.max(II)I -/
theorem d5_0 : decode jdk_29_method_65_code 0 = .ok (.iload_n 0, 1) := by decide +kernel
theorem d5_1 : decode jdk_29_method_65_code 1 = .ok (.iload_n 1, 1) := by decide +kernel
theorem d5_2 : decode jdk_29_method_65_code 2 = .ok (.if_icmp .lt 7, 3) := by decide +kernel
theorem d5_5 : decode jdk_29_method_65_code 5 = .ok (.iload_n 0, 1) := by decide +kernel
theorem d5_6 : decode jdk_29_method_65_code 6 = .ok (.goto 4, 3) := by decide +kernel
theorem d5_9 : decode jdk_29_method_65_code 9 = .ok (.iload_n 1, 1) := by decide +kernel
theorem d5_10 : decode jdk_29_method_65_code 10 = .ok (.ireturn, 1) := by decide +kernel
theorem pd_5 : parseMethodDescriptor "(II)I" = some ⟨[.int, .int], some .int⟩ := by decide +kernel
abbrev own_R5 : Room := { frames := 0, cells := 0, slots := 0, locals := 0 }
def f5_10 (s0 : Int32) : Int32 :=
  s0
set_option maxRecDepth 65536 in
set_option maxHeartbeats 4000000 in
theorem w5_10 (K : Cx p l e own_R5 s m meth c Z a0 tables_1 "java/lang/Math" "max" jdk_29_method_65_code 2 (some .int)) (X : On p l e own_R5 s m args below meth c own_D Z n0 T A cells slots) (i0 : Int32) (i1 : Int32) (s0 : Int32) (hc : cells + 0 ≤ 0) (hs : slots + 0 ≤ 0) :
    Go p e below (T.setTop (mkF m 10 #[.val (.int i0), .val (.int i1)] [(.int s0)])) (Fini own_D Z n0 s own_R5 (some (.int (f5_10 s0))) A) := by
  unfold f5_10
  exact retI K X (show cells ≤ 0 by omega) (show slots ≤ 0 by omega) d5_10
def f5_0 (i0 : Int32) (i1 : Int32) : Int32 :=
  if i0 < i1 then (f5_10 i1)
  else (f5_10 i0)
set_option maxRecDepth 65536 in
set_option maxHeartbeats 4000000 in
theorem w5_0 (K : Cx p l e own_R5 s m meth c Z a0 tables_1 "java/lang/Math" "max" jdk_29_method_65_code 2 (some .int)) (X : On p l e own_R5 s m args below meth c own_D Z n0 T A cells slots) (i0 : Int32) (i1 : Int32) (hc : cells + 0 ≤ 0) (hs : slots + 0 ≤ 0) :
    Go p e below (T.setTop (mkF m 0 #[.val (.int i0), .val (.int i1)] [])) (Fini own_D Z n0 s own_R5 (some (.int (f5_0 i0 i1))) A) := by
  unfold f5_0
  refine i_iloadN (pc' := 1) K X d5_0 rfl rfl ?_
  refine i_iloadN (pc' := 2) K X d5_1 rfl rfl ?_
  by_cases hc2 : i0 < i1
  · rw [if_pos hc2]
    refine i_icmpYes (pc' := 9) K X d5_2 (tlt hc2).1 (by decide) (by decide) ?_
    refine i_iloadN (pc' := 10) K X d5_9 rfl rfl ?_
    exact w5_10 K X i0 i1 i1 (show cells + 0 ≤ 0 by omega) (show slots + 0 ≤ 0 by omega)
  · rw [if_neg hc2]
    refine i_icmpNo (pc' := 5) K X d5_2 rfl (flt hc2).1 ?_
    refine i_iloadN (pc' := 6) K X d5_5 rfl rfl ?_
    refine i_goto (pc' := 10) K X d5_6 (by decide) (by decide) ?_
    exact w5_10 K X i0 i1 i0 (show cells + 0 ≤ 0 by omega) (show slots + 0 ≤ 0 by omega)
theorem rm5 {l : Launch} {Z : State} {a0 : Array Value} {n0 : Nat} (hw : ∀ d ∈ tables_1, d.before a0 Z = true) (A : AH) (i0 : Int32) (i1 : Int32) :
    Met l own_D Z n0 (⟨"java/lang/Math", "max", "(II)I"⟩ : MethodName) jdk_29_method_65_code 2 (some .int) own_R5 [(.int i0), (.int i1)] A (some (.int (f5_0 i0 i1))) A :=
  met (W := tables_1) (a0 := a0) (own := "java/lang/Math") (nm := "max") (L0 := #[.val (.int i0), .val (.int i1)]) (Jvm.Free.JP.mathPlain rfl (by decide +kernel)) hw rfl rfl (fun m => by first | (simp [entryFrame, mkF, argsToLocals, Value.category]; done) | rfl) (fun p e s m below meth c T K X => w5_0 K X i0 i1 (show 0 + 0 ≤ 0 by decide) (show 0 + 0 ≤ 0 by decide))
/-! body 12: LineCounter.isTerminator(C)Z -/
theorem d12_0 : decode prog_13_method_2_code 0 = .ok (.iload_n 0, 1) := by decide +kernel
theorem d12_1 : decode prog_13_method_2_code 1 = .ok (.bipush 13, 2) := by decide +kernel
theorem d12_3 : decode prog_13_method_2_code 3 = .ok (.if_icmp .gt 19, 3) := by decide +kernel
theorem d12_6 : decode prog_13_method_2_code 6 = .ok (.iload_n 0, 1) := by decide +kernel
theorem d12_7 : decode prog_13_method_2_code 7 = .ok (.bipush 10, 2) := by decide +kernel
theorem d12_9 : decode prog_13_method_2_code 9 = .ok (.if_icmp .eq 9, 3) := by decide +kernel
theorem d12_12 : decode prog_13_method_2_code 12 = .ok (.iload_n 0, 1) := by decide +kernel
theorem d12_13 : decode prog_13_method_2_code 13 = .ok (.bipush 13, 2) := by decide +kernel
theorem d12_15 : decode prog_13_method_2_code 15 = .ok (.if_icmp .ne 7, 3) := by decide +kernel
theorem d12_18 : decode prog_13_method_2_code 18 = .ok (.iconst 1, 1) := by decide +kernel
theorem d12_19 : decode prog_13_method_2_code 19 = .ok (.goto 4, 3) := by decide +kernel
theorem d12_22 : decode prog_13_method_2_code 22 = .ok (.iconst 0, 1) := by decide +kernel
theorem d12_23 : decode prog_13_method_2_code 23 = .ok (.ireturn, 1) := by decide +kernel
theorem pd_12 : parseMethodDescriptor "(C)Z" = some ⟨[.char], some .boolean⟩ := by decide +kernel
abbrev own_R12 : Room := { frames := 0, cells := 0, slots := 0, locals := 0 }
def f12_23 (s0 : Int32) : Int32 :=
  (nar .boolean s0)
set_option maxRecDepth 65536 in
set_option maxHeartbeats 4000000 in
theorem w12_23 (K : Cx p l e own_R12 s m meth c Z a0 tables_1 "com/example/runnel/runnel/io/LineCounter" "isTerminator" prog_13_method_2_code 1 (some .boolean)) (X : On p l e own_R12 s m args below meth c own_D Z n0 T A cells slots) (i0 : Int32) (s0 : Int32) (hc : cells + 0 ≤ 0) (hs : slots + 0 ≤ 0) :
    Go p e below (T.setTop (mkF m 23 #[.val (.int i0)] [(.int s0)])) (Fini own_D Z n0 s own_R12 (some (.int (f12_23 s0))) A) := by
  unfold f12_23
  exact retB K (by simp) X (show cells ≤ 0 by omega) (show slots ≤ 0 by omega) d12_23
def f12_22  : Int32 :=
  f12_23 (0 : Int32)
set_option maxRecDepth 65536 in
set_option maxHeartbeats 4000000 in
theorem w12_22 (K : Cx p l e own_R12 s m meth c Z a0 tables_1 "com/example/runnel/runnel/io/LineCounter" "isTerminator" prog_13_method_2_code 1 (some .boolean)) (X : On p l e own_R12 s m args below meth c own_D Z n0 T A cells slots) (i0 : Int32) (hc : cells + 0 ≤ 0) (hs : slots + 0 ≤ 0) :
    Go p e below (T.setTop (mkF m 22 #[.val (.int i0)] [])) (Fini own_D Z n0 s own_R12 (some (.int (f12_22 ))) A) := by
  unfold f12_22
  refine i_iconst (pc' := 23) (v := (0 : Int32)) K X d12_22 rfl rfl ?_
  exact w12_23 K X i0 (0 : Int32) (show cells + 0 ≤ 0 by omega) (show slots + 0 ≤ 0 by omega)
def f12_18  : Int32 :=
  f12_23 (1 : Int32)
set_option maxRecDepth 65536 in
set_option maxHeartbeats 4000000 in
theorem w12_18 (K : Cx p l e own_R12 s m meth c Z a0 tables_1 "com/example/runnel/runnel/io/LineCounter" "isTerminator" prog_13_method_2_code 1 (some .boolean)) (X : On p l e own_R12 s m args below meth c own_D Z n0 T A cells slots) (i0 : Int32) (hc : cells + 0 ≤ 0) (hs : slots + 0 ≤ 0) :
    Go p e below (T.setTop (mkF m 18 #[.val (.int i0)] [])) (Fini own_D Z n0 s own_R12 (some (.int (f12_18 ))) A) := by
  unfold f12_18
  refine i_iconst (pc' := 19) (v := (1 : Int32)) K X d12_18 rfl rfl ?_
  refine i_goto (pc' := 23) K X d12_19 (by decide) (by decide) ?_
  exact w12_23 K X i0 (1 : Int32) (show cells + 0 ≤ 0 by omega) (show slots + 0 ≤ 0 by omega)
def f12_0 (i0 : Int32) : Int32 :=
  if (13 : Int32) < i0 then (f12_22 )
  else (if i0 = (10 : Int32) then (f12_18 )
  else (if i0 = (13 : Int32) then (f12_18 )
  else (f12_22 )))
set_option maxRecDepth 65536 in
set_option maxHeartbeats 4000000 in
theorem w12_0 (K : Cx p l e own_R12 s m meth c Z a0 tables_1 "com/example/runnel/runnel/io/LineCounter" "isTerminator" prog_13_method_2_code 1 (some .boolean)) (X : On p l e own_R12 s m args below meth c own_D Z n0 T A cells slots) (i0 : Int32) (hc : cells + 0 ≤ 0) (hs : slots + 0 ≤ 0) :
    Go p e below (T.setTop (mkF m 0 #[.val (.int i0)] [])) (Fini own_D Z n0 s own_R12 (some (.int (f12_0 i0))) A) := by
  unfold f12_0
  refine i_iloadN (pc' := 1) K X d12_0 rfl rfl ?_
  refine i_bipush (pc' := 3) (v := (13 : Int32)) K X d12_1 rfl rfl ?_
  by_cases hc3 : (13 : Int32) < i0
  · rw [if_pos hc3]
    refine i_icmpYes (pc' := 22) K X d12_3 (tlt hc3).2.2.1 (by decide) (by decide) ?_
    exact w12_22 K X i0 (show cells + 0 ≤ 0 by omega) (show slots + 0 ≤ 0 by omega)
  · rw [if_neg hc3]
    refine i_icmpNo (pc' := 6) K X d12_3 rfl (flt hc3).2.2.1 ?_
    refine i_iloadN (pc' := 7) K X d12_6 rfl rfl ?_
    refine i_bipush (pc' := 9) (v := (10 : Int32)) K X d12_7 rfl rfl ?_
    by_cases hc9 : i0 = (10 : Int32)
    · rw [if_pos hc9]
      refine i_icmpYes (pc' := 18) K X d12_9 (teq hc9).1 (by decide) (by decide) ?_
      exact w12_18 K X i0 (show cells + 0 ≤ 0 by omega) (show slots + 0 ≤ 0 by omega)
    · rw [if_neg hc9]
      refine i_icmpNo (pc' := 12) K X d12_9 rfl (feq hc9).1 ?_
      refine i_iloadN (pc' := 13) K X d12_12 rfl rfl ?_
      refine i_bipush (pc' := 15) (v := (13 : Int32)) K X d12_13 rfl rfl ?_
      by_cases hc15 : i0 = (13 : Int32)
      · rw [if_pos hc15]
        refine i_icmpNo (pc' := 18) K X d12_15 rfl (teq hc15).2 ?_
        exact w12_18 K X i0 (show cells + 0 ≤ 0 by omega) (show slots + 0 ≤ 0 by omega)
      · rw [if_neg hc15]
        refine i_icmpYes (pc' := 22) K X d12_15 (feq hc15).2 (by decide) (by decide) ?_
        exact w12_22 K X i0 (show cells + 0 ≤ 0 by omega) (show slots + 0 ≤ 0 by omega)
theorem pn_12 : plainName "com/example/runnel/runnel/io/LineCounter" = true := by first | (simp [plainName, overriddenIn]; done) | decide +kernel
theorem rm12 {l : Launch} {Z : State} {a0 : Array Value} {n0 : Nat} (hw : ∀ d ∈ tables_1, d.before a0 Z = true) (A : AH) (i0 : Int32) :
    Met l own_D Z n0 (⟨"com/example/runnel/runnel/io/LineCounter", "isTerminator", "(C)Z"⟩ : MethodName) prog_13_method_2_code 1 (some .boolean) own_R12 [(.int i0)] A (some (.int (f12_0 i0))) A :=
  met (W := tables_1) (a0 := a0) (own := "com/example/runnel/runnel/io/LineCounter") (nm := "isTerminator") (L0 := #[.val (.int i0)]) (plainFor_of_name pn_12) hw rfl rfl (fun m => by first | (simp [entryFrame, mkF, argsToLocals, Value.category]; done) | rfl) (fun p e s m below meth c T K X => w12_0 K X i0 (show 0 + 0 ≤ 0 by decide) (show 0 + 0 ≤ 0 by decide))
/-! body 6: LineCounter.advance([CII)V -/
theorem d6_0 : decode prog_13_method_16_code 0 = .ok (.aload_n 0, 1) := by decide +kernel
theorem d6_1 : decode prog_13_method_16_code 1 = .ok (.getfield 22, 3) := by decide +kernel
theorem d6_4 : decode prog_13_method_16_code 4 = .ok (.lstore 4, 2) := by decide +kernel
theorem d6_6 : decode prog_13_method_16_code 6 = .ok (.iconst (-1), 1) := by decide +kernel
theorem d6_7 : decode prog_13_method_16_code 7 = .ok (.istore 6, 2) := by decide +kernel
theorem d6_9 : decode prog_13_method_16_code 9 = .ok (.iload_n 2, 1) := by decide +kernel
theorem d6_10 : decode prog_13_method_16_code 10 = .ok (.istore 7, 2) := by decide +kernel
theorem d6_12 : decode prog_13_method_16_code 12 = .ok (.iload 7, 2) := by decide +kernel
theorem d6_14 : decode prog_13_method_16_code 14 = .ok (.iload_n 3, 1) := by decide +kernel
theorem d6_15 : decode prog_13_method_16_code 15 = .ok (.if_icmp .ge 78, 3) := by decide +kernel
theorem d6_18 : decode prog_13_method_16_code 18 = .ok (.aload_n 1, 1) := by decide +kernel
theorem d6_19 : decode prog_13_method_16_code 19 = .ok (.iload 7, 2) := by decide +kernel
theorem d6_21 : decode prog_13_method_16_code 21 = .ok (.caload, 1) := by decide +kernel
theorem d6_22 : decode prog_13_method_16_code 22 = .ok (.istore 8, 2) := by decide +kernel
theorem d6_24 : decode prog_13_method_16_code 24 = .ok (.iload 8, 2) := by decide +kernel
theorem d6_26 : decode prog_13_method_16_code 26 = .ok (.invokestatic 61, 3) := by decide +kernel
theorem d6_29 : decode prog_13_method_16_code 29 = .ok (.ifCond .eq 58, 3) := by decide +kernel
theorem d6_32 : decode prog_13_method_16_code 32 = .ok (.iload 7, 2) := by decide +kernel
theorem d6_34 : decode prog_13_method_16_code 34 = .ok (.iload_n 2, 1) := by decide +kernel
theorem d6_35 : decode prog_13_method_16_code 35 = .ok (.if_icmp .ne 10, 3) := by decide +kernel
theorem d6_38 : decode prog_13_method_16_code 38 = .ok (.aload_n 0, 1) := by decide +kernel
theorem d6_39 : decode prog_13_method_16_code 39 = .ok (.getfield 72, 3) := by decide +kernel
theorem d6_42 : decode prog_13_method_16_code 42 = .ok (.goto 19, 3) := by decide +kernel
theorem d6_45 : decode prog_13_method_16_code 45 = .ok (.aload_n 1, 1) := by decide +kernel
theorem d6_46 : decode prog_13_method_16_code 46 = .ok (.iload 7, 2) := by decide +kernel
theorem d6_48 : decode prog_13_method_16_code 48 = .ok (.iconst 1, 1) := by decide +kernel
theorem d6_49 : decode prog_13_method_16_code 49 = .ok (.isub, 1) := by decide +kernel
theorem d6_50 : decode prog_13_method_16_code 50 = .ok (.caload, 1) := by decide +kernel
theorem d6_51 : decode prog_13_method_16_code 51 = .ok (.bipush 13, 2) := by decide +kernel
theorem d6_53 : decode prog_13_method_16_code 53 = .ok (.if_icmp .ne 7, 3) := by decide +kernel
theorem d6_56 : decode prog_13_method_16_code 56 = .ok (.iconst 1, 1) := by decide +kernel
theorem d6_57 : decode prog_13_method_16_code 57 = .ok (.goto 4, 3) := by decide +kernel
theorem d6_60 : decode prog_13_method_16_code 60 = .ok (.iconst 0, 1) := by decide +kernel
theorem d6_61 : decode prog_13_method_16_code 61 = .ok (.istore 9, 2) := by decide +kernel
theorem d6_63 : decode prog_13_method_16_code 63 = .ok (.iload 8, 2) := by decide +kernel
theorem d6_65 : decode prog_13_method_16_code 65 = .ok (.bipush 13, 2) := by decide +kernel
theorem d6_67 : decode prog_13_method_16_code 67 = .ok (.if_icmp .eq 8, 3) := by decide +kernel
theorem d6_70 : decode prog_13_method_16_code 70 = .ok (.iload 9, 2) := by decide +kernel
theorem d6_72 : decode prog_13_method_16_code 72 = .ok (.ifCond .ne 9, 3) := by decide +kernel
theorem d6_75 : decode prog_13_method_16_code 75 = .ok (.lload 4, 2) := by decide +kernel
theorem d6_77 : decode prog_13_method_16_code 77 = .ok (.lconst 1, 1) := by decide +kernel
theorem d6_78 : decode prog_13_method_16_code 78 = .ok (.ladd, 1) := by decide +kernel
theorem d6_79 : decode prog_13_method_16_code 79 = .ok (.lstore 4, 2) := by decide +kernel
theorem d6_81 : decode prog_13_method_16_code 81 = .ok (.iload 7, 2) := by decide +kernel
theorem d6_83 : decode prog_13_method_16_code 83 = .ok (.iconst 1, 1) := by decide +kernel
theorem d6_84 : decode prog_13_method_16_code 84 = .ok (.iadd, 1) := by decide +kernel
theorem d6_85 : decode prog_13_method_16_code 85 = .ok (.istore 6, 2) := by decide +kernel
theorem d6_87 : decode prog_13_method_16_code 87 = .ok (.iinc 7 1, 3) := by decide +kernel
theorem d6_90 : decode prog_13_method_16_code 90 = .ok (.goto (-78), 3) := by decide +kernel
theorem d6_93 : decode prog_13_method_16_code 93 = .ok (.iload_n 3, 1) := by decide +kernel
theorem d6_94 : decode prog_13_method_16_code 94 = .ok (.iload_n 2, 1) := by decide +kernel
theorem d6_95 : decode prog_13_method_16_code 95 = .ok (.if_icmp .le 54, 3) := by decide +kernel
theorem d6_98 : decode prog_13_method_16_code 98 = .ok (.aload_n 0, 1) := by decide +kernel
theorem d6_99 : decode prog_13_method_16_code 99 = .ok (.lload 4, 2) := by decide +kernel
theorem d6_101 : decode prog_13_method_16_code 101 = .ok (.putfield 22, 3) := by decide +kernel
theorem d6_104 : decode prog_13_method_16_code 104 = .ok (.aload_n 0, 1) := by decide +kernel
theorem d6_105 : decode prog_13_method_16_code 105 = .ok (.iload 6, 2) := by decide +kernel
theorem d6_107 : decode prog_13_method_16_code 107 = .ok (.ifCond .ge 15, 3) := by decide +kernel
theorem d6_110 : decode prog_13_method_16_code 110 = .ok (.aload_n 0, 1) := by decide +kernel
theorem d6_111 : decode prog_13_method_16_code 111 = .ok (.getfield 25, 3) := by decide +kernel
theorem d6_114 : decode prog_13_method_16_code 114 = .ok (.iload_n 3, 1) := by decide +kernel
theorem d6_115 : decode prog_13_method_16_code 115 = .ok (.iload_n 2, 1) := by decide +kernel
theorem d6_116 : decode prog_13_method_16_code 116 = .ok (.isub, 1) := by decide +kernel
theorem d6_117 : decode prog_13_method_16_code 117 = .ok (.i2l, 1) := by decide +kernel
theorem d6_118 : decode prog_13_method_16_code 118 = .ok (.ladd, 1) := by decide +kernel
theorem d6_119 : decode prog_13_method_16_code 119 = .ok (.goto 8, 3) := by decide +kernel
theorem d6_122 : decode prog_13_method_16_code 122 = .ok (.iload_n 3, 1) := by decide +kernel
theorem d6_123 : decode prog_13_method_16_code 123 = .ok (.iload 6, 2) := by decide +kernel
theorem d6_125 : decode prog_13_method_16_code 125 = .ok (.isub, 1) := by decide +kernel
theorem d6_126 : decode prog_13_method_16_code 126 = .ok (.i2l, 1) := by decide +kernel
theorem d6_127 : decode prog_13_method_16_code 127 = .ok (.putfield 25, 3) := by decide +kernel
theorem d6_130 : decode prog_13_method_16_code 130 = .ok (.aload_n 0, 1) := by decide +kernel
theorem d6_131 : decode prog_13_method_16_code 131 = .ok (.aload_n 1, 1) := by decide +kernel
theorem d6_132 : decode prog_13_method_16_code 132 = .ok (.iload_n 3, 1) := by decide +kernel
theorem d6_133 : decode prog_13_method_16_code 133 = .ok (.iconst 1, 1) := by decide +kernel
theorem d6_134 : decode prog_13_method_16_code 134 = .ok (.isub, 1) := by decide +kernel
theorem d6_135 : decode prog_13_method_16_code 135 = .ok (.caload, 1) := by decide +kernel
theorem d6_136 : decode prog_13_method_16_code 136 = .ok (.bipush 13, 2) := by decide +kernel
theorem d6_138 : decode prog_13_method_16_code 138 = .ok (.if_icmp .ne 7, 3) := by decide +kernel
theorem d6_141 : decode prog_13_method_16_code 141 = .ok (.iconst 1, 1) := by decide +kernel
theorem d6_142 : decode prog_13_method_16_code 142 = .ok (.goto 4, 3) := by decide +kernel
theorem d6_145 : decode prog_13_method_16_code 145 = .ok (.iconst 0, 1) := by decide +kernel
theorem d6_146 : decode prog_13_method_16_code 146 = .ok (.putfield 72, 3) := by decide +kernel
theorem d6_149 : decode prog_13_method_16_code 149 = .ok (.return_, 1) := by decide +kernel
theorem pd_6 : parseMethodDescriptor "([CII)V" = some ⟨[(.array .char), .int, .int], none⟩ := by decide +kernel
abbrev own_R6 : Room := { frames := 1, cells := 0, slots := 0, locals := 12 }
def f6_149 (A : AH)  : Option (AH) :=
  some A
set_option maxRecDepth 65536 in
set_option maxHeartbeats 4000000 in
theorem w6_149 (K : Cx p l e own_R6 s m meth c Z a0 tables_1 "com/example/runnel/runnel/io/LineCounter" "advance" prog_13_method_16_code 10 none) (sep : ∀ t, Sep Z (own_D t).2) (X : On p l e own_R6 s m args below meth c own_D Z n0 T A cells slots) (o0 : Nat) (o1 : Nat) (i2 : Int32) (i3 : Int32) (j4 : Int64) (i6 : Int32) (i7 : Int32) (x8 : Slot) (hx8 : One x8) (x9 : Slot) (hx9 : One x9) (hc : cells + 0 ≤ 0) (hs : slots + 0 ≤ 0) {q : AH} (hf : f6_149 A  = some q) :
    Go p e below (T.setTop (mkF m 149 #[.val (.ref (n0 + o0)), .val (.ref (n0 + o1)), .val (.int i2), .val (.int i3), .val (.long j4), .second, .val (.int i6), .val (.int i7), x8, x9] [])) (Fini own_D Z n0 s own_R6 none q) := by
  unfold f6_149 at hf
  cases hf
  exact retV K X (show cells ≤ 0 by omega) (show slots ≤ 0 by omega) d6_149
def f6_146 (A : AH) (s0 : Int32) (r1 : Nat) : Option (AH) :=
  (h_fset A 10 r1 5 (.int (nar .boolean s0))).bind fun A1 =>
  f6_149 A1 
set_option maxRecDepth 65536 in
set_option maxHeartbeats 4000000 in
theorem w6_146 (K : Cx p l e own_R6 s m meth c Z a0 tables_1 "com/example/runnel/runnel/io/LineCounter" "advance" prog_13_method_16_code 10 none) (sep : ∀ t, Sep Z (own_D t).2) (X : On p l e own_R6 s m args below meth c own_D Z n0 T A cells slots) (o0 : Nat) (o1 : Nat) (i2 : Int32) (i3 : Int32) (j4 : Int64) (i6 : Int32) (i7 : Int32) (x8 : Slot) (hx8 : One x8) (x9 : Slot) (hx9 : One x9) (s0 : Int32) (r1 : Nat) (hc : cells + 0 ≤ 0) (hs : slots + 0 ≤ 0) {q : AH} (hf : f6_146 A s0 r1 = some q) :
    Go p e below (T.setTop (mkF m 146 #[.val (.ref (n0 + o0)), .val (.ref (n0 + o1)), .val (.int i2), .val (.int i3), .val (.long j4), .second, .val (.int i6), .val (.int i7), x8, x9] [(.int s0), (.ref (n0 + r1))])) (Fini own_D Z n0 s own_R6 none q) := by
  unfold f6_146 at hf
  obtain ⟨A1, g1, hf⟩ := bs hf
  refine putf (pc' := 149) (va := (.int (nar .boolean s0))) K sep X (i := 68) rfl d6_146 (t := 10) (f := 5) (by decide) rfl (Or.inl (wd K (i := 69) rfl)) (i2 := 6) rfl (ty := .boolean) (by decide) rfl (fits_nar_bool _) g1 rfl (fun T1 X1 => ?_)
  exact w6_149 K sep X1 o0 o1 i2 i3 j4 i6 i7 x8 hx8 x9 hx9 (show cells + 0 ≤ 0 by omega) (show slots + 0 ≤ 0 by omega) hf
def f6_127 (A : AH) (o0 : Nat) (o1 : Nat) (i3 : Int32) (u0 : Int64) (r1 : Nat) : Option (AH) :=
  (h_fset A 10 r1 4 (.long u0)).bind fun A1 =>
  (asI (h_aget A1 1 o1 (i3 - (1 : Int32)))).bind fun v2 =>
  if v2 = (13 : Int32) then (f6_146 A1 (1 : Int32) o0)
  else (f6_146 A1 (0 : Int32) o0)
set_option maxRecDepth 65536 in
set_option maxHeartbeats 4000000 in
theorem w6_127 (K : Cx p l e own_R6 s m meth c Z a0 tables_1 "com/example/runnel/runnel/io/LineCounter" "advance" prog_13_method_16_code 10 none) (sep : ∀ t, Sep Z (own_D t).2) (X : On p l e own_R6 s m args below meth c own_D Z n0 T A cells slots) (o0 : Nat) (o1 : Nat) (i2 : Int32) (i3 : Int32) (j4 : Int64) (i6 : Int32) (i7 : Int32) (x8 : Slot) (hx8 : One x8) (x9 : Slot) (hx9 : One x9) (u0 : Int64) (r1 : Nat) (hc : cells + 0 ≤ 0) (hs : slots + 0 ≤ 0) {q : AH} (hf : f6_127 A o0 o1 i3 u0 r1 = some q) :
    Go p e below (T.setTop (mkF m 127 #[.val (.ref (n0 + o0)), .val (.ref (n0 + o1)), .val (.int i2), .val (.int i3), .val (.long j4), .second, .val (.int i6), .val (.int i7), x8, x9] [(.long u0), (.ref (n0 + r1))])) (Fini own_D Z n0 s own_R6 none q) := by
  unfold f6_127 at hf
  obtain ⟨A1, g1, hf⟩ := bs hf
  refine putf (pc' := 130) (va := (.long u0)) K sep X (i := 52) rfl d6_127 (t := 10) (f := 4) (by decide) rfl (Or.inl (wd K (i := 53) rfl)) (i2 := 6) rfl (ty := .long) (by decide) rfl rfl g1 rfl (fun T1 X1 => ?_)
  refine i_aloadN (pc' := 131) K X1 d6_130 rfl rfl rfl ?_
  refine i_aloadN (pc' := 132) K X1 d6_131 rfl rfl rfl ?_
  refine i_iloadN (pc' := 133) K X1 d6_132 rfl rfl ?_
  refine i_iconst (pc' := 134) (v := (1 : Int32)) K X1 d6_133 rfl rfl ?_
  refine i_isub (pc' := 135) K X1 d6_134 rfl ?_
  obtain ⟨v2, g2, hf⟩ := bs hf
  refine ld1 (pc' := 136) K X1 g2 d6_135 rfl ?_
  refine i_bipush (pc' := 138) (v := (13 : Int32)) K X1 d6_136 rfl rfl ?_
  by_cases hc138 : v2 = (13 : Int32)
  · rw [if_pos hc138] at hf
    refine i_icmpNo (pc' := 141) K X1 d6_138 rfl (teq hc138).2 ?_
    refine i_iconst (pc' := 142) (v := (1 : Int32)) K X1 d6_141 rfl rfl ?_
    refine i_goto (pc' := 146) K X1 d6_142 (by decide) (by decide) ?_
    exact w6_146 K sep X1 o0 o1 i2 i3 j4 i6 i7 x8 hx8 x9 hx9 (1 : Int32) o0 (show cells + 0 ≤ 0 by omega) (show slots + 0 ≤ 0 by omega) hf
  · rw [if_neg hc138] at hf
    refine i_icmpYes (pc' := 145) K X1 d6_138 (feq hc138).2 (by decide) (by decide) ?_
    refine i_iconst (pc' := 146) (v := (0 : Int32)) K X1 d6_145 rfl rfl ?_
    exact w6_146 K sep X1 o0 o1 i2 i3 j4 i6 i7 x8 hx8 x9 hx9 (0 : Int32) o0 (show cells + 0 ≤ 0 by omega) (show slots + 0 ≤ 0 by omega) hf
def f6_116 (A : AH) (o0 : Nat) (o1 : Nat) (i3 : Int32) (s0 : Int32) (s1 : Int32) (u2 : Int64) (r3 : Nat) : Option (AH) :=
  f6_127 A o0 o1 i3 (u2 + (((s1 - s0)).toInt64)) r3
set_option maxRecDepth 65536 in
set_option maxHeartbeats 4000000 in
theorem w6_116 (K : Cx p l e own_R6 s m meth c Z a0 tables_1 "com/example/runnel/runnel/io/LineCounter" "advance" prog_13_method_16_code 10 none) (sep : ∀ t, Sep Z (own_D t).2) (X : On p l e own_R6 s m args below meth c own_D Z n0 T A cells slots) (o0 : Nat) (o1 : Nat) (i2 : Int32) (i3 : Int32) (j4 : Int64) (i6 : Int32) (i7 : Int32) (x8 : Slot) (hx8 : One x8) (x9 : Slot) (hx9 : One x9) (s0 : Int32) (s1 : Int32) (u2 : Int64) (r3 : Nat) (hc : cells + 0 ≤ 0) (hs : slots + 0 ≤ 0) {q : AH} (hf : f6_116 A o0 o1 i3 s0 s1 u2 r3 = some q) :
    Go p e below (T.setTop (mkF m 116 #[.val (.ref (n0 + o0)), .val (.ref (n0 + o1)), .val (.int i2), .val (.int i3), .val (.long j4), .second, .val (.int i6), .val (.int i7), x8, x9] [(.int s0), (.int s1), (.long u2), (.ref (n0 + r3))])) (Fini own_D Z n0 s own_R6 none q) := by
  unfold f6_116 at hf
  refine i_isub (pc' := 117) K X d6_116 rfl ?_
  refine i_i2l (pc' := 118) K X d6_117 rfl ?_
  refine i_ladd (pc' := 119) K X d6_118 rfl ?_
  refine i_goto (pc' := 127) K X d6_119 (by decide) (by decide) ?_
  exact w6_127 K sep X o0 o1 i2 i3 j4 i6 i7 x8 hx8 x9 hx9 (u2 + (((s1 - s0)).toInt64)) r3 (show cells + 0 ≤ 0 by omega) (show slots + 0 ≤ 0 by omega) hf
def f6_87 (rec12 : AH → Nat → Nat → Int32 → Int32 → Int64 → Int32 → Int32 → Option (AH)) (A : AH) (o0 : Nat) (o1 : Nat) (i2 : Int32) (i3 : Int32) (j4 : Int64) (i6 : Int32) (i7 : Int32) : Option (AH) :=
  rec12 A o0 o1 i2 i3 j4 i6 (i7 + (1 : Int32))
set_option maxRecDepth 65536 in
set_option maxHeartbeats 4000000 in
theorem w6_87 (K : Cx p l e own_R6 s m meth c Z a0 tables_1 "com/example/runnel/runnel/io/LineCounter" "advance" prog_13_method_16_code 10 none) (sep : ∀ t, Sep Z (own_D t).2) {rec12 : AH → Nat → Nat → Int32 → Int32 → Int64 → Int32 → Int32 → Option (AH)} (H12 : ∀ (T : State) (A : AH) (cells slots : Nat), On p l e own_R6 s m args below meth c own_D Z n0 T A cells slots → ∀ (o0 : Nat) (o1 : Nat) (i2 : Int32) (i3 : Int32) (j4 : Int64) (i6 : Int32) (i7 : Int32) (x8 : Slot) (hx8 : One x8) (x9 : Slot) (hx9 : One x9) (_u : Unit), cells + 0 ≤ 0 → slots + 0 ≤ 0 → ∀ q, rec12 A o0 o1 i2 i3 j4 i6 i7 = some q → Go p e below (T.setTop (mkF m 12 #[.val (.ref (n0 + o0)), .val (.ref (n0 + o1)), .val (.int i2), .val (.int i3), .val (.long j4), .second, .val (.int i6), .val (.int i7), x8, x9] [])) (Fini own_D Z n0 s own_R6 none q)) (X : On p l e own_R6 s m args below meth c own_D Z n0 T A cells slots) (o0 : Nat) (o1 : Nat) (i2 : Int32) (i3 : Int32) (j4 : Int64) (i6 : Int32) (i7 : Int32) (i8 : Int32) (x9 : Slot) (hx9 : One x9) (hc : cells + 0 ≤ 0) (hs : slots + 0 ≤ 0) {q : AH} (hf : f6_87 rec12 A o0 o1 i2 i3 j4 i6 i7 = some q) :
    Go p e below (T.setTop (mkF m 87 #[.val (.ref (n0 + o0)), .val (.ref (n0 + o1)), .val (.int i2), .val (.int i3), .val (.long j4), .second, .val (.int i6), .val (.int i7), .val (.int i8), x9] [])) (Fini own_D Z n0 s own_R6 none q) := by
  unfold f6_87 at hf
  refine i_iinc (pc' := 90) (y := (1 : Int32)) (Ls' := #[.val (.ref (n0 + o0)), .val (.ref (n0 + o1)), .val (.int i2), .val (.int i3), .val (.long j4), .second, .val (.int i6), .val (.int (i7 + (1 : Int32))), .val (.int i8), x9]) K X d6_87 rfl rfl rfl rfl ?_
  refine i_goto (pc' := 12) K X d6_90 (by decide) (by decide) ?_
  exact H12 _ _ _ _ X o0 o1 i2 i3 j4 i6 (i7 + (1 : Int32)) (.val (.int i8)) (One.val rfl) x9 hx9 () (show cells + 0 ≤ 0 by omega) (show slots + 0 ≤ 0 by omega) _ hf
def f6_81 (rec12 : AH → Nat → Nat → Int32 → Int32 → Int64 → Int32 → Int32 → Option (AH)) (A : AH) (o0 : Nat) (o1 : Nat) (i2 : Int32) (i3 : Int32) (j4 : Int64) (i7 : Int32) : Option (AH) :=
  f6_87 rec12 A o0 o1 i2 i3 j4 (i7 + (1 : Int32)) i7
set_option maxRecDepth 65536 in
set_option maxHeartbeats 4000000 in
theorem w6_81 (K : Cx p l e own_R6 s m meth c Z a0 tables_1 "com/example/runnel/runnel/io/LineCounter" "advance" prog_13_method_16_code 10 none) (sep : ∀ t, Sep Z (own_D t).2) {rec12 : AH → Nat → Nat → Int32 → Int32 → Int64 → Int32 → Int32 → Option (AH)} (H12 : ∀ (T : State) (A : AH) (cells slots : Nat), On p l e own_R6 s m args below meth c own_D Z n0 T A cells slots → ∀ (o0 : Nat) (o1 : Nat) (i2 : Int32) (i3 : Int32) (j4 : Int64) (i6 : Int32) (i7 : Int32) (x8 : Slot) (hx8 : One x8) (x9 : Slot) (hx9 : One x9) (_u : Unit), cells + 0 ≤ 0 → slots + 0 ≤ 0 → ∀ q, rec12 A o0 o1 i2 i3 j4 i6 i7 = some q → Go p e below (T.setTop (mkF m 12 #[.val (.ref (n0 + o0)), .val (.ref (n0 + o1)), .val (.int i2), .val (.int i3), .val (.long j4), .second, .val (.int i6), .val (.int i7), x8, x9] [])) (Fini own_D Z n0 s own_R6 none q)) (X : On p l e own_R6 s m args below meth c own_D Z n0 T A cells slots) (o0 : Nat) (o1 : Nat) (i2 : Int32) (i3 : Int32) (j4 : Int64) (i6 : Int32) (i7 : Int32) (i8 : Int32) (i9 : Int32) (hc : cells + 0 ≤ 0) (hs : slots + 0 ≤ 0) {q : AH} (hf : f6_81 rec12 A o0 o1 i2 i3 j4 i7 = some q) :
    Go p e below (T.setTop (mkF m 81 #[.val (.ref (n0 + o0)), .val (.ref (n0 + o1)), .val (.int i2), .val (.int i3), .val (.long j4), .second, .val (.int i6), .val (.int i7), .val (.int i8), .val (.int i9)] [])) (Fini own_D Z n0 s own_R6 none q) := by
  unfold f6_81 at hf
  refine i_iload (pc' := 83) K X d6_81 rfl rfl ?_
  refine i_iconst (pc' := 84) (v := (1 : Int32)) K X d6_83 rfl rfl ?_
  refine i_iadd (pc' := 85) K X d6_84 rfl ?_
  refine i_istore (pc' := 87) (Ls' := #[.val (.ref (n0 + o0)), .val (.ref (n0 + o1)), .val (.int i2), .val (.int i3), .val (.long j4), .second, .val (.int (i7 + (1 : Int32))), .val (.int i7), .val (.int i8), .val (.int i9)]) K X d6_85 rfl rfl ?_
  exact w6_87 K sep H12 X o0 o1 i2 i3 j4 (i7 + (1 : Int32)) i7 i8 (.val (.int i9)) (One.val rfl) (show cells + 0 ≤ 0 by omega) (show slots + 0 ≤ 0 by omega) hf
def f6_75 (rec12 : AH → Nat → Nat → Int32 → Int32 → Int64 → Int32 → Int32 → Option (AH)) (A : AH) (o0 : Nat) (o1 : Nat) (i2 : Int32) (i3 : Int32) (j4 : Int64) (i7 : Int32) : Option (AH) :=
  f6_81 rec12 A o0 o1 i2 i3 (j4 + (1 : Int64)) i7
set_option maxRecDepth 65536 in
set_option maxHeartbeats 4000000 in
theorem w6_75 (K : Cx p l e own_R6 s m meth c Z a0 tables_1 "com/example/runnel/runnel/io/LineCounter" "advance" prog_13_method_16_code 10 none) (sep : ∀ t, Sep Z (own_D t).2) {rec12 : AH → Nat → Nat → Int32 → Int32 → Int64 → Int32 → Int32 → Option (AH)} (H12 : ∀ (T : State) (A : AH) (cells slots : Nat), On p l e own_R6 s m args below meth c own_D Z n0 T A cells slots → ∀ (o0 : Nat) (o1 : Nat) (i2 : Int32) (i3 : Int32) (j4 : Int64) (i6 : Int32) (i7 : Int32) (x8 : Slot) (hx8 : One x8) (x9 : Slot) (hx9 : One x9) (_u : Unit), cells + 0 ≤ 0 → slots + 0 ≤ 0 → ∀ q, rec12 A o0 o1 i2 i3 j4 i6 i7 = some q → Go p e below (T.setTop (mkF m 12 #[.val (.ref (n0 + o0)), .val (.ref (n0 + o1)), .val (.int i2), .val (.int i3), .val (.long j4), .second, .val (.int i6), .val (.int i7), x8, x9] [])) (Fini own_D Z n0 s own_R6 none q)) (X : On p l e own_R6 s m args below meth c own_D Z n0 T A cells slots) (o0 : Nat) (o1 : Nat) (i2 : Int32) (i3 : Int32) (j4 : Int64) (i6 : Int32) (i7 : Int32) (i8 : Int32) (i9 : Int32) (hc : cells + 0 ≤ 0) (hs : slots + 0 ≤ 0) {q : AH} (hf : f6_75 rec12 A o0 o1 i2 i3 j4 i7 = some q) :
    Go p e below (T.setTop (mkF m 75 #[.val (.ref (n0 + o0)), .val (.ref (n0 + o1)), .val (.int i2), .val (.int i3), .val (.long j4), .second, .val (.int i6), .val (.int i7), .val (.int i8), .val (.int i9)] [])) (Fini own_D Z n0 s own_R6 none q) := by
  unfold f6_75 at hf
  refine i_lload (pc' := 77) K X d6_75 rfl rfl ?_
  refine i_lconst (pc' := 78) (v := (1 : Int64)) K X d6_77 rfl rfl ?_
  refine i_ladd (pc' := 79) K X d6_78 rfl ?_
  refine i_lstore (pc' := 81) (Ls' := #[.val (.ref (n0 + o0)), .val (.ref (n0 + o1)), .val (.int i2), .val (.int i3), .val (.long (j4 + (1 : Int64))), .second, .val (.int i6), .val (.int i7), .val (.int i8), .val (.int i9)]) K X d6_79 rfl rfl ?_
  exact w6_81 K sep H12 X o0 o1 i2 i3 (j4 + (1 : Int64)) i6 i7 i8 i9 (show cells + 0 ≤ 0 by omega) (show slots + 0 ≤ 0 by omega) hf
def f6_61 (rec12 : AH → Nat → Nat → Int32 → Int32 → Int64 → Int32 → Int32 → Option (AH)) (A : AH) (o0 : Nat) (o1 : Nat) (i2 : Int32) (i3 : Int32) (j4 : Int64) (i7 : Int32) (i8 : Int32) (s0 : Int32) : Option (AH) :=
  if i8 = (13 : Int32) then (f6_75 rec12 A o0 o1 i2 i3 j4 i7)
  else (if s0 = (0 : Int32) then (f6_75 rec12 A o0 o1 i2 i3 j4 i7)
  else (f6_81 rec12 A o0 o1 i2 i3 j4 i7))
set_option maxRecDepth 65536 in
set_option maxHeartbeats 4000000 in
theorem w6_61 (K : Cx p l e own_R6 s m meth c Z a0 tables_1 "com/example/runnel/runnel/io/LineCounter" "advance" prog_13_method_16_code 10 none) (sep : ∀ t, Sep Z (own_D t).2) {rec12 : AH → Nat → Nat → Int32 → Int32 → Int64 → Int32 → Int32 → Option (AH)} (H12 : ∀ (T : State) (A : AH) (cells slots : Nat), On p l e own_R6 s m args below meth c own_D Z n0 T A cells slots → ∀ (o0 : Nat) (o1 : Nat) (i2 : Int32) (i3 : Int32) (j4 : Int64) (i6 : Int32) (i7 : Int32) (x8 : Slot) (hx8 : One x8) (x9 : Slot) (hx9 : One x9) (_u : Unit), cells + 0 ≤ 0 → slots + 0 ≤ 0 → ∀ q, rec12 A o0 o1 i2 i3 j4 i6 i7 = some q → Go p e below (T.setTop (mkF m 12 #[.val (.ref (n0 + o0)), .val (.ref (n0 + o1)), .val (.int i2), .val (.int i3), .val (.long j4), .second, .val (.int i6), .val (.int i7), x8, x9] [])) (Fini own_D Z n0 s own_R6 none q)) (X : On p l e own_R6 s m args below meth c own_D Z n0 T A cells slots) (o0 : Nat) (o1 : Nat) (i2 : Int32) (i3 : Int32) (j4 : Int64) (i6 : Int32) (i7 : Int32) (i8 : Int32) (x9 : Slot) (hx9 : One x9) (s0 : Int32) (hc : cells + 0 ≤ 0) (hs : slots + 0 ≤ 0) {q : AH} (hf : f6_61 rec12 A o0 o1 i2 i3 j4 i7 i8 s0 = some q) :
    Go p e below (T.setTop (mkF m 61 #[.val (.ref (n0 + o0)), .val (.ref (n0 + o1)), .val (.int i2), .val (.int i3), .val (.long j4), .second, .val (.int i6), .val (.int i7), .val (.int i8), x9] [(.int s0)])) (Fini own_D Z n0 s own_R6 none q) := by
  unfold f6_61 at hf
  refine i_istore (pc' := 63) (Ls' := #[.val (.ref (n0 + o0)), .val (.ref (n0 + o1)), .val (.int i2), .val (.int i3), .val (.long j4), .second, .val (.int i6), .val (.int i7), .val (.int i8), .val (.int s0)]) K X d6_61 rfl (stOne hx9 rfl rfl rfl) ?_
  refine i_iload (pc' := 65) K X d6_63 rfl rfl ?_
  refine i_bipush (pc' := 67) (v := (13 : Int32)) K X d6_65 rfl rfl ?_
  by_cases hc67 : i8 = (13 : Int32)
  · rw [if_pos hc67] at hf
    refine i_icmpYes (pc' := 75) K X d6_67 (teq hc67).1 (by decide) (by decide) ?_
    exact w6_75 K sep H12 X o0 o1 i2 i3 j4 i6 i7 i8 s0 (show cells + 0 ≤ 0 by omega) (show slots + 0 ≤ 0 by omega) hf
  · rw [if_neg hc67] at hf
    refine i_icmpNo (pc' := 70) K X d6_67 rfl (feq hc67).1 ?_
    refine i_iload (pc' := 72) K X d6_70 rfl rfl ?_
    by_cases hc72 : s0 = (0 : Int32)
    · rw [if_pos hc72] at hf
      refine i_ifNo (pc' := 75) K X d6_72 rfl (teq hc72).2 ?_
      exact w6_75 K sep H12 X o0 o1 i2 i3 j4 i6 i7 i8 s0 (show cells + 0 ≤ 0 by omega) (show slots + 0 ≤ 0 by omega) hf
    · rw [if_neg hc72] at hf
      refine i_ifYes (pc' := 81) K X d6_72 (feq hc72).2 (by decide) (by decide) ?_
      exact w6_81 K sep H12 X o0 o1 i2 i3 j4 i6 i7 i8 s0 (show cells + 0 ≤ 0 by omega) (show slots + 0 ≤ 0 by omega) hf
def f6_49 (rec12 : AH → Nat → Nat → Int32 → Int32 → Int64 → Int32 → Int32 → Option (AH)) (A : AH) (o0 : Nat) (o1 : Nat) (i2 : Int32) (i3 : Int32) (j4 : Int64) (i7 : Int32) (i8 : Int32) (s0 : Int32) (s1 : Int32) (r2 : Nat) : Option (AH) :=
  (asI (h_aget A 1 r2 (s1 - s0))).bind fun v1 =>
  if v1 = (13 : Int32) then (f6_61 rec12 A o0 o1 i2 i3 j4 i7 i8 (1 : Int32))
  else (f6_61 rec12 A o0 o1 i2 i3 j4 i7 i8 (0 : Int32))
set_option maxRecDepth 65536 in
set_option maxHeartbeats 4000000 in
theorem w6_49 (K : Cx p l e own_R6 s m meth c Z a0 tables_1 "com/example/runnel/runnel/io/LineCounter" "advance" prog_13_method_16_code 10 none) (sep : ∀ t, Sep Z (own_D t).2) {rec12 : AH → Nat → Nat → Int32 → Int32 → Int64 → Int32 → Int32 → Option (AH)} (H12 : ∀ (T : State) (A : AH) (cells slots : Nat), On p l e own_R6 s m args below meth c own_D Z n0 T A cells slots → ∀ (o0 : Nat) (o1 : Nat) (i2 : Int32) (i3 : Int32) (j4 : Int64) (i6 : Int32) (i7 : Int32) (x8 : Slot) (hx8 : One x8) (x9 : Slot) (hx9 : One x9) (_u : Unit), cells + 0 ≤ 0 → slots + 0 ≤ 0 → ∀ q, rec12 A o0 o1 i2 i3 j4 i6 i7 = some q → Go p e below (T.setTop (mkF m 12 #[.val (.ref (n0 + o0)), .val (.ref (n0 + o1)), .val (.int i2), .val (.int i3), .val (.long j4), .second, .val (.int i6), .val (.int i7), x8, x9] [])) (Fini own_D Z n0 s own_R6 none q)) (X : On p l e own_R6 s m args below meth c own_D Z n0 T A cells slots) (o0 : Nat) (o1 : Nat) (i2 : Int32) (i3 : Int32) (j4 : Int64) (i6 : Int32) (i7 : Int32) (i8 : Int32) (x9 : Slot) (hx9 : One x9) (s0 : Int32) (s1 : Int32) (r2 : Nat) (hc : cells + 0 ≤ 0) (hs : slots + 0 ≤ 0) {q : AH} (hf : f6_49 rec12 A o0 o1 i2 i3 j4 i7 i8 s0 s1 r2 = some q) :
    Go p e below (T.setTop (mkF m 49 #[.val (.ref (n0 + o0)), .val (.ref (n0 + o1)), .val (.int i2), .val (.int i3), .val (.long j4), .second, .val (.int i6), .val (.int i7), .val (.int i8), x9] [(.int s0), (.int s1), (.ref (n0 + r2))])) (Fini own_D Z n0 s own_R6 none q) := by
  unfold f6_49 at hf
  refine i_isub (pc' := 50) K X d6_49 rfl ?_
  obtain ⟨v1, g1, hf⟩ := bs hf
  refine ld1 (pc' := 51) K X g1 d6_50 rfl ?_
  refine i_bipush (pc' := 53) (v := (13 : Int32)) K X d6_51 rfl rfl ?_
  by_cases hc53 : v1 = (13 : Int32)
  · rw [if_pos hc53] at hf
    refine i_icmpNo (pc' := 56) K X d6_53 rfl (teq hc53).2 ?_
    refine i_iconst (pc' := 57) (v := (1 : Int32)) K X d6_56 rfl rfl ?_
    refine i_goto (pc' := 61) K X d6_57 (by decide) (by decide) ?_
    exact w6_61 K sep H12 X o0 o1 i2 i3 j4 i6 i7 i8 x9 hx9 (1 : Int32) (show cells + 0 ≤ 0 by omega) (show slots + 0 ≤ 0 by omega) hf
  · rw [if_neg hc53] at hf
    refine i_icmpYes (pc' := 60) K X d6_53 (feq hc53).2 (by decide) (by decide) ?_
    refine i_iconst (pc' := 61) (v := (0 : Int32)) K X d6_60 rfl rfl ?_
    exact w6_61 K sep H12 X o0 o1 i2 i3 j4 i6 i7 i8 x9 hx9 (0 : Int32) (show cells + 0 ≤ 0 by omega) (show slots + 0 ≤ 0 by omega) hf
def g6_12 (rec12 : AH → Nat → Nat → Int32 → Int32 → Int64 → Int32 → Int32 → Option (AH)) (A : AH) (o0 : Nat) (o1 : Nat) (i2 : Int32) (i3 : Int32) (j4 : Int64) (i6 : Int32) (i7 : Int32) : Option (AH) :=
  if i7 < i3 then ((asI (h_aget A 1 o1 i7)).bind fun v3 =>
  if (f12_0 v3) = (0 : Int32) then (f6_87 rec12 A o0 o1 i2 i3 j4 i6 i7)
  else (if i7 = i2 then ((asI (h_fget A 10 o0 5)).bind fun v5 =>
  f6_61 rec12 A o0 o1 i2 i3 j4 i7 v3 v5)
  else (f6_49 rec12 A o0 o1 i2 i3 j4 i7 v3 (1 : Int32) i7 o1)))
  else (if i2 < i3 then ((h_fset A 10 o0 3 (.long j4)).bind fun A1 =>
  if i6 < (0 : Int32) then ((asJ (h_fget A1 10 o0 4)).bind fun v2 =>
  f6_116 A1 o0 o1 i3 i2 i3 v2 o0)
  else (f6_127 A1 o0 o1 i3 (((i3 - i6)).toInt64) o0))
  else (f6_149 A ))
set_option maxRecDepth 65536 in
set_option maxHeartbeats 4000000 in
theorem v6_12 (K : Cx p l e own_R6 s m meth c Z a0 tables_1 "com/example/runnel/runnel/io/LineCounter" "advance" prog_13_method_16_code 10 none) (sep : ∀ t, Sep Z (own_D t).2) {rec12 : AH → Nat → Nat → Int32 → Int32 → Int64 → Int32 → Int32 → Option (AH)} (H12 : ∀ (T : State) (A : AH) (cells slots : Nat), On p l e own_R6 s m args below meth c own_D Z n0 T A cells slots → ∀ (o0 : Nat) (o1 : Nat) (i2 : Int32) (i3 : Int32) (j4 : Int64) (i6 : Int32) (i7 : Int32) (x8 : Slot) (hx8 : One x8) (x9 : Slot) (hx9 : One x9) (_u : Unit), cells + 0 ≤ 0 → slots + 0 ≤ 0 → ∀ q, rec12 A o0 o1 i2 i3 j4 i6 i7 = some q → Go p e below (T.setTop (mkF m 12 #[.val (.ref (n0 + o0)), .val (.ref (n0 + o1)), .val (.int i2), .val (.int i3), .val (.long j4), .second, .val (.int i6), .val (.int i7), x8, x9] [])) (Fini own_D Z n0 s own_R6 none q)) (X : On p l e own_R6 s m args below meth c own_D Z n0 T A cells slots) (o0 : Nat) (o1 : Nat) (i2 : Int32) (i3 : Int32) (j4 : Int64) (i6 : Int32) (i7 : Int32) (x8 : Slot) (hx8 : One x8) (x9 : Slot) (hx9 : One x9) (hc : cells + 0 ≤ 0) (hs : slots + 0 ≤ 0) {q : AH} (hf : g6_12 rec12 A o0 o1 i2 i3 j4 i6 i7 = some q) :
    Go p e below (T.setTop (mkF m 12 #[.val (.ref (n0 + o0)), .val (.ref (n0 + o1)), .val (.int i2), .val (.int i3), .val (.long j4), .second, .val (.int i6), .val (.int i7), x8, x9] [])) (Fini own_D Z n0 s own_R6 none q) := by
  unfold g6_12 at hf
  refine i_iload (pc' := 14) K X d6_12 rfl rfl ?_
  refine i_iloadN (pc' := 15) K X d6_14 rfl rfl ?_
  by_cases hc15 : i7 < i3
  · rw [if_pos hc15] at hf
    refine i_icmpNo (pc' := 18) K X d6_15 rfl (tlt hc15).2.1 ?_
    refine i_aloadN (pc' := 19) K X d6_18 rfl rfl rfl ?_
    refine i_iload (pc' := 21) K X d6_19 rfl rfl ?_
    obtain ⟨v3, g3, hf⟩ := bs hf
    refine ld1 (pc' := 22) K X g3 d6_21 rfl ?_
    refine i_istore (pc' := 24) (Ls' := #[.val (.ref (n0 + o0)), .val (.ref (n0 + o1)), .val (.int i2), .val (.int i3), .val (.long j4), .second, .val (.int i6), .val (.int i7), .val (.int v3), x9]) K X d6_22 rfl (stOne hx8 rfl rfl rfl) ?_
    refine i_iload (pc' := 26) K X d6_24 rfl rfl ?_
    refine calls (pc' := 29) (kc := cells) (ks := slots) (S' := [(.int (f12_0 v3))]) (st := []) K X (i1 := 70) rfl (i2 := 71) rfl (i3 := 7) rfl (i4 := 72) rfl (by decide) (rm12 (l := l) (n0 := n0) (K.2.2.2.2.2.2.2.2) A v3) pd_12 rfl d6_26 rfl rfl (by decide) (w := 0) (Nat.le_of_eq rfl) (by decide) (show cells + 0 ≤ 0 by omega) (show slots + 0 ≤ 0 by omega) rfl rfl rfl rfl (fun T4 X4 => ?_)
    by_cases hc29 : (f12_0 v3) = (0 : Int32)
    · rw [if_pos hc29] at hf
      refine i_ifYes (pc' := 87) K X4 d6_29 (teq hc29).1 (by decide) (by decide) ?_
      exact w6_87 K sep H12 X4 o0 o1 i2 i3 j4 i6 i7 v3 x9 hx9 (show cells + 0 ≤ 0 by omega) (show slots + 0 ≤ 0 by omega) hf
    · rw [if_neg hc29] at hf
      refine i_ifNo (pc' := 32) K X4 d6_29 rfl (feq hc29).1 ?_
      refine i_iload (pc' := 34) K X4 d6_32 rfl rfl ?_
      refine i_iloadN (pc' := 35) K X4 d6_34 rfl rfl ?_
      by_cases hc35 : i7 = i2
      · rw [if_pos hc35] at hf
        refine i_icmpNo (pc' := 38) K X4 d6_35 rfl (teq hc35).2 ?_
        refine i_aloadN (pc' := 39) K X4 d6_38 rfl rfl rfl ?_
        obtain ⟨v5, g5, hf⟩ := bs hf
        refine getfI (pc' := 42) K X4 (i := 68) rfl d6_39 (t := 10) (f := 5) (by decide) rfl g5 rfl (fun T5 X5 => ?_)
        refine i_goto (pc' := 61) K X5 d6_42 (by decide) (by decide) ?_
        exact w6_61 K sep H12 X5 o0 o1 i2 i3 j4 i6 i7 v3 x9 hx9 v5 (show cells + 0 ≤ 0 by omega) (show slots + 0 ≤ 0 by omega) hf
      · rw [if_neg hc35] at hf
        refine i_icmpYes (pc' := 45) K X4 d6_35 (feq hc35).2 (by decide) (by decide) ?_
        refine i_aloadN (pc' := 46) K X4 d6_45 rfl rfl rfl ?_
        refine i_iload (pc' := 48) K X4 d6_46 rfl rfl ?_
        refine i_iconst (pc' := 49) (v := (1 : Int32)) K X4 d6_48 rfl rfl ?_
        exact w6_49 K sep H12 X4 o0 o1 i2 i3 j4 i6 i7 v3 x9 hx9 (1 : Int32) i7 o1 (show cells + 0 ≤ 0 by omega) (show slots + 0 ≤ 0 by omega) hf
  · rw [if_neg hc15] at hf
    refine i_icmpYes (pc' := 93) K X d6_15 (flt hc15).2.1 (by decide) (by decide) ?_
    refine i_iloadN (pc' := 94) K X d6_93 rfl rfl ?_
    refine i_iloadN (pc' := 95) K X d6_94 rfl rfl ?_
    by_cases hc95 : i2 < i3
    · rw [if_pos hc95] at hf
      refine i_icmpNo (pc' := 98) K X d6_95 rfl (tlt hc95).2.2.2 ?_
      refine i_aloadN (pc' := 99) K X d6_98 rfl rfl rfl ?_
      refine i_lload (pc' := 101) K X d6_99 rfl rfl ?_
      obtain ⟨A1, g1, hf⟩ := bs hf
      refine putf (pc' := 104) (va := (.long j4)) K sep X (i := 40) rfl d6_101 (t := 10) (f := 3) (by decide) rfl (Or.inl (wd K (i := 41) rfl)) (i2 := 6) rfl (ty := .long) (by decide) rfl rfl g1 rfl (fun T1 X1 => ?_)
      refine i_aloadN (pc' := 105) K X1 d6_104 rfl rfl rfl ?_
      refine i_iload (pc' := 107) K X1 d6_105 rfl rfl ?_
      by_cases hc107 : i6 < (0 : Int32)
      · rw [if_pos hc107] at hf
        refine i_ifNo (pc' := 110) K X1 d6_107 rfl (tlt hc107).2.1 ?_
        refine i_aloadN (pc' := 111) K X1 d6_110 rfl rfl rfl ?_
        obtain ⟨v2, g2, hf⟩ := bs hf
        refine getfJ (pc' := 114) K X1 (i := 52) rfl d6_111 (t := 10) (f := 4) (by decide) rfl g2 rfl (fun T2 X2 => ?_)
        refine i_iloadN (pc' := 115) K X2 d6_114 rfl rfl ?_
        refine i_iloadN (pc' := 116) K X2 d6_115 rfl rfl ?_
        exact w6_116 K sep X2 o0 o1 i2 i3 j4 i6 i7 x8 hx8 x9 hx9 i2 i3 v2 o0 (show cells + 0 ≤ 0 by omega) (show slots + 0 ≤ 0 by omega) hf
      · rw [if_neg hc107] at hf
        refine i_ifYes (pc' := 122) K X1 d6_107 (flt hc107).2.1 (by decide) (by decide) ?_
        refine i_iloadN (pc' := 123) K X1 d6_122 rfl rfl ?_
        refine i_iload (pc' := 125) K X1 d6_123 rfl rfl ?_
        refine i_isub (pc' := 126) K X1 d6_125 rfl ?_
        refine i_i2l (pc' := 127) K X1 d6_126 rfl ?_
        exact w6_127 K sep X1 o0 o1 i2 i3 j4 i6 i7 x8 hx8 x9 hx9 (((i3 - i6)).toInt64) o0 (show cells + 0 ≤ 0 by omega) (show slots + 0 ≤ 0 by omega) hf
    · rw [if_neg hc95] at hf
      refine i_icmpYes (pc' := 149) K X d6_95 (flt hc95).2.2.2 (by decide) (by decide) ?_
      exact w6_149 K sep X o0 o1 i2 i3 j4 i6 i7 x8 hx8 x9 hx9 (show cells + 0 ≤ 0 by omega) (show slots + 0 ≤ 0 by omega) hf
def f6_12 : Nat → AH → Nat → Nat → Int32 → Int32 → Int64 → Int32 → Int32 → Option (AH)
  | 0 => fun _ _ _ _ _ _ _ _ => none
  | k + 1 => g6_12 (f6_12 k)
theorem w6_12 (K : Cx p l e own_R6 s m meth c Z a0 tables_1 "com/example/runnel/runnel/io/LineCounter" "advance" prog_13_method_16_code 10 none) (sep : ∀ t, Sep Z (own_D t).2) : ∀ (k : Nat) (T : State) (A : AH) (cells slots : Nat), On p l e own_R6 s m args below meth c own_D Z n0 T A cells slots → ∀ (o0 : Nat) (o1 : Nat) (i2 : Int32) (i3 : Int32) (j4 : Int64) (i6 : Int32) (i7 : Int32) (x8 : Slot) (hx8 : One x8) (x9 : Slot) (hx9 : One x9) (_u : Unit), cells + 0 ≤ 0 → slots + 0 ≤ 0 → ∀ q, f6_12 k A o0 o1 i2 i3 j4 i6 i7 = some q → Go p e below (T.setTop (mkF m 12 #[.val (.ref (n0 + o0)), .val (.ref (n0 + o1)), .val (.int i2), .val (.int i3), .val (.long j4), .second, .val (.int i6), .val (.int i7), x8, x9] [])) (Fini own_D Z n0 s own_R6 none q) := by
  intro k
  induction k with
  | zero => intro T A cells slots X o0 o1 i2 i3 j4 i6 i7 x8 hx8 x9 hx9 _ hc hs q hf; exact nomatch hf
  | succ k ih => intro T A cells slots X o0 o1 i2 i3 j4 i6 i7 x8 hx8 x9 hx9 _ hc hs q hf; exact v6_12 K sep ih X o0 o1 i2 i3 j4 i6 i7 x8 hx8 x9 hx9 hc hs hf
def f6_0 (A : AH) (o0 : Nat) (o1 : Nat) (i2 : Int32) (i3 : Int32) : Option (AH) :=
  (asJ (h_fget A 10 o0 3)).bind fun v1 =>
  f6_12 8 A o0 o1 i2 i3 v1 (-1 : Int32) i2
set_option maxRecDepth 65536 in
set_option maxHeartbeats 4000000 in
theorem w6_0 (K : Cx p l e own_R6 s m meth c Z a0 tables_1 "com/example/runnel/runnel/io/LineCounter" "advance" prog_13_method_16_code 10 none) (sep : ∀ t, Sep Z (own_D t).2) (X : On p l e own_R6 s m args below meth c own_D Z n0 T A cells slots) (o0 : Nat) (o1 : Nat) (i2 : Int32) (i3 : Int32) (hc : cells + 0 ≤ 0) (hs : slots + 0 ≤ 0) {q : AH} (hf : f6_0 A o0 o1 i2 i3 = some q) :
    Go p e below (T.setTop (mkF m 0 #[.val (.ref (n0 + o0)), .val (.ref (n0 + o1)), .val (.int i2), .val (.int i3), .unset, .unset, .unset, .unset, .unset, .unset] [])) (Fini own_D Z n0 s own_R6 none q) := by
  unfold f6_0 at hf
  refine i_aloadN (pc' := 1) K X d6_0 rfl rfl rfl ?_
  obtain ⟨v1, g1, hf⟩ := bs hf
  refine getfJ (pc' := 4) K X (i := 40) rfl d6_1 (t := 10) (f := 3) (by decide) rfl g1 rfl (fun T1 X1 => ?_)
  refine i_lstore (pc' := 6) (Ls' := #[.val (.ref (n0 + o0)), .val (.ref (n0 + o1)), .val (.int i2), .val (.int i3), .val (.long v1), .second, .unset, .unset, .unset, .unset]) K X1 d6_4 rfl rfl ?_
  refine i_iconst (pc' := 7) (v := (-1 : Int32)) K X1 d6_6 rfl rfl ?_
  refine i_istore (pc' := 9) (Ls' := #[.val (.ref (n0 + o0)), .val (.ref (n0 + o1)), .val (.int i2), .val (.int i3), .val (.long v1), .second, .val (.int (-1 : Int32)), .unset, .unset, .unset]) K X1 d6_7 rfl rfl ?_
  refine i_iloadN (pc' := 10) K X1 d6_9 rfl rfl ?_
  refine i_istore (pc' := 12) (Ls' := #[.val (.ref (n0 + o0)), .val (.ref (n0 + o1)), .val (.int i2), .val (.int i3), .val (.long v1), .second, .val (.int (-1 : Int32)), .val (.int i2), .unset, .unset]) K X1 d6_10 rfl rfl ?_
  exact w6_12 K sep 8 _ _ _ _ X1 o0 o1 i2 i3 v1 (-1 : Int32) i2 .unset One.u .unset One.u () (show cells + 0 ≤ 0 by omega) (show slots + 0 ≤ 0 by omega) _ hf
theorem pn_6 : plainName "com/example/runnel/runnel/io/LineCounter" = true := by first | (simp [plainName, overriddenIn]; done) | decide +kernel
theorem rm6 {l : Launch} {Z : State} {a0 : Array Value} {n0 : Nat} (hw : ∀ d ∈ tables_1, d.before a0 Z = true) (A : AH) (o0 : Nat) (o1 : Nat) (i2 : Int32) (i3 : Int32) {q : AH} (hf : f6_0 A o0 o1 i2 i3 = some q) :
    Met l own_D Z n0 (⟨"com/example/runnel/runnel/io/LineCounter", "advance", "([CII)V"⟩ : MethodName) prog_13_method_16_code 10 none own_R6 [(.ref (n0 + o0)), (.ref (n0 + o1)), (.int i2), (.int i3)] A none q :=
  met (W := tables_1) (a0 := a0) (own := "com/example/runnel/runnel/io/LineCounter") (nm := "advance") (L0 := #[.val (.ref (n0 + o0)), .val (.ref (n0 + o1)), .val (.int i2), .val (.int i3), .unset, .unset, .unset, .unset, .unset, .unset]) (plainFor_of_name pn_6) hw rfl rfl (fun m => by first | (simp [entryFrame, mkF, argsToLocals, Value.category]; done) | rfl) (fun p e s m below meth c T K X => w6_0 K (own_sep hw) X o0 o1 i2 i3 (show 0 + 0 ≤ 0 by decide) (show 0 + 0 ≤ 0 by decide) hf)
/-! body 14: LineCounter.writeRing()V -/
theorem d14_0 : decode prog_13_method_15_code 0 = .ok (.aload_n 0, 1) := by decide +kernel
theorem d14_1 : decode prog_13_method_15_code 1 = .ok (.getfield 9, 3) := by decide +kernel
theorem d14_4 : decode prog_13_method_15_code 4 = .ok (.lconst 0, 1) := by decide +kernel
theorem d14_5 : decode prog_13_method_15_code 5 = .ok (.lcmp, 1) := by decide +kernel
theorem d14_6 : decode prog_13_method_15_code 6 = .ok (.ifCond .lt 82, 3) := by decide +kernel
theorem d14_9 : decode prog_13_method_15_code 9 = .ok (.aload_n 0, 1) := by decide +kernel
theorem d14_10 : decode prog_13_method_15_code 10 = .ok (.getfield 19, 3) := by decide +kernel
theorem d14_13 : decode prog_13_method_15_code 13 = .ok (.arraylength, 1) := by decide +kernel
theorem d14_14 : decode prog_13_method_15_code 14 = .ok (.istore_n 1, 1) := by decide +kernel
theorem d14_15 : decode prog_13_method_15_code 15 = .ok (.iconst 0, 1) := by decide +kernel
theorem d14_16 : decode prog_13_method_15_code 16 = .ok (.istore_n 2, 1) := by decide +kernel
theorem d14_17 : decode prog_13_method_15_code 17 = .ok (.iload_n 2, 1) := by decide +kernel
theorem d14_18 : decode prog_13_method_15_code 18 = .ok (.iload_n 1, 1) := by decide +kernel
theorem d14_19 : decode prog_13_method_15_code 19 = .ok (.if_icmp .ge 62, 3) := by decide +kernel
theorem d14_22 : decode prog_13_method_15_code 22 = .ok (.aload_n 0, 1) := by decide +kernel
theorem d14_23 : decode prog_13_method_15_code 23 = .ok (.getfield 15, 3) := by decide +kernel
theorem d14_26 : decode prog_13_method_15_code 26 = .ok (.aload_n 0, 1) := by decide +kernel
theorem d14_27 : decode prog_13_method_15_code 27 = .ok (.getfield 82, 3) := by decide +kernel
theorem d14_30 : decode prog_13_method_15_code 30 = .ok (.aload_n 0, 1) := by decide +kernel
theorem d14_31 : decode prog_13_method_15_code 31 = .ok (.getfield 65, 3) := by decide +kernel
theorem d14_34 : decode prog_13_method_15_code 34 = .ok (.lastore, 1) := by decide +kernel
theorem d14_35 : decode prog_13_method_15_code 35 = .ok (.aload_n 0, 1) := by decide +kernel
theorem d14_36 : decode prog_13_method_15_code 36 = .ok (.getfield 19, 3) := by decide +kernel
theorem d14_39 : decode prog_13_method_15_code 39 = .ok (.aload_n 0, 1) := by decide +kernel
theorem d14_40 : decode prog_13_method_15_code 40 = .ok (.getfield 82, 3) := by decide +kernel
theorem d14_43 : decode prog_13_method_15_code 43 = .ok (.aload_n 0, 1) := by decide +kernel
theorem d14_44 : decode prog_13_method_15_code 44 = .ok (.getfield 9, 3) := by decide +kernel
theorem d14_47 : decode prog_13_method_15_code 47 = .ok (.iload_n 2, 1) := by decide +kernel
theorem d14_48 : decode prog_13_method_15_code 48 = .ok (.i2l, 1) := by decide +kernel
theorem d14_49 : decode prog_13_method_15_code 49 = .ok (.ladd, 1) := by decide +kernel
theorem d14_50 : decode prog_13_method_15_code 50 = .ok (.lastore, 1) := by decide +kernel
theorem d14_51 : decode prog_13_method_15_code 51 = .ok (.aload_n 0, 1) := by decide +kernel
theorem d14_52 : decode prog_13_method_15_code 52 = .ok (.aload_n 0, 1) := by decide +kernel
theorem d14_53 : decode prog_13_method_15_code 53 = .ok (.getfield 82, 3) := by decide +kernel
theorem d14_56 : decode prog_13_method_15_code 56 = .ok (.iconst 1, 1) := by decide +kernel
theorem d14_57 : decode prog_13_method_15_code 57 = .ok (.iadd, 1) := by decide +kernel
theorem d14_58 : decode prog_13_method_15_code 58 = .ok (.iload_n 1, 1) := by decide +kernel
theorem d14_59 : decode prog_13_method_15_code 59 = .ok (.if_icmp .ne 7, 3) := by decide +kernel
theorem d14_62 : decode prog_13_method_15_code 62 = .ok (.iconst 0, 1) := by decide +kernel
theorem d14_63 : decode prog_13_method_15_code 63 = .ok (.goto 9, 3) := by decide +kernel
theorem d14_66 : decode prog_13_method_15_code 66 = .ok (.aload_n 0, 1) := by decide +kernel
theorem d14_67 : decode prog_13_method_15_code 67 = .ok (.getfield 82, 3) := by decide +kernel
theorem d14_70 : decode prog_13_method_15_code 70 = .ok (.iconst 1, 1) := by decide +kernel
theorem d14_71 : decode prog_13_method_15_code 71 = .ok (.iadd, 1) := by decide +kernel
theorem d14_72 : decode prog_13_method_15_code 72 = .ok (.putfield 82, 3) := by decide +kernel
theorem d14_75 : decode prog_13_method_15_code 75 = .ok (.iinc 2 1, 3) := by decide +kernel
theorem d14_78 : decode prog_13_method_15_code 78 = .ok (.goto (-61), 3) := by decide +kernel
theorem d14_81 : decode prog_13_method_15_code 81 = .ok (.aload_n 0, 1) := by decide +kernel
theorem d14_82 : decode prog_13_method_15_code 82 = .ok (.ldc2_w 7, 3) := by decide +kernel
theorem d14_85 : decode prog_13_method_15_code 85 = .ok (.putfield 9, 3) := by decide +kernel
theorem d14_88 : decode prog_13_method_15_code 88 = .ok (.return_, 1) := by decide +kernel
theorem pd_14 : parseMethodDescriptor "()V" = some ⟨[], none⟩ := by decide +kernel
abbrev own_R14 : Room := { frames := 0, cells := 0, slots := 0, locals := 0 }
def f14_88 (A : AH)  : Option (AH) :=
  some A
set_option maxRecDepth 65536 in
set_option maxHeartbeats 4000000 in
theorem w14_88 (K : Cx p l e own_R14 s m meth c Z a0 tables_1 "com/example/runnel/runnel/io/LineCounter" "writeRing" prog_13_method_15_code 3 none) (sep : ∀ t, Sep Z (own_D t).2) (X : On p l e own_R14 s m args below meth c own_D Z n0 T A cells slots) (o0 : Nat) (x1 : Slot) (hx1 : One x1) (x2 : Slot) (hx2 : One x2) (hc : cells + 0 ≤ 0) (hs : slots + 0 ≤ 0) {q : AH} (hf : f14_88 A  = some q) :
    Go p e below (T.setTop (mkF m 88 #[.val (.ref (n0 + o0)), x1, x2] [])) (Fini own_D Z n0 s own_R14 none q) := by
  unfold f14_88 at hf
  cases hf
  exact retV K X (show cells ≤ 0 by omega) (show slots ≤ 0 by omega) d14_88
def f14_72 (rec17 : AH → Nat → Int32 → Int32 → Option (AH)) (A : AH) (o0 : Nat) (i1 : Int32) (i2 : Int32) (s0 : Int32) (r1 : Nat) : Option (AH) :=
  (h_fset A 10 r1 6 (.int s0)).bind fun A1 =>
  rec17 A1 o0 i1 (i2 + (1 : Int32))
set_option maxRecDepth 65536 in
set_option maxHeartbeats 4000000 in
theorem w14_72 (K : Cx p l e own_R14 s m meth c Z a0 tables_1 "com/example/runnel/runnel/io/LineCounter" "writeRing" prog_13_method_15_code 3 none) (sep : ∀ t, Sep Z (own_D t).2) {rec17 : AH → Nat → Int32 → Int32 → Option (AH)} (H17 : ∀ (T : State) (A : AH) (cells slots : Nat), On p l e own_R14 s m args below meth c own_D Z n0 T A cells slots → ∀ (o0 : Nat) (i1 : Int32) (i2 : Int32) (_u : Unit), cells + 0 ≤ 0 → slots + 0 ≤ 0 → ∀ q, rec17 A o0 i1 i2 = some q → Go p e below (T.setTop (mkF m 17 #[.val (.ref (n0 + o0)), .val (.int i1), .val (.int i2)] [])) (Fini own_D Z n0 s own_R14 none q)) (X : On p l e own_R14 s m args below meth c own_D Z n0 T A cells slots) (o0 : Nat) (i1 : Int32) (i2 : Int32) (s0 : Int32) (r1 : Nat) (hc : cells + 0 ≤ 0) (hs : slots + 0 ≤ 0) {q : AH} (hf : f14_72 rec17 A o0 i1 i2 s0 r1 = some q) :
    Go p e below (T.setTop (mkF m 72 #[.val (.ref (n0 + o0)), .val (.int i1), .val (.int i2)] [(.int s0), (.ref (n0 + r1))])) (Fini own_D Z n0 s own_R14 none q) := by
  unfold f14_72 at hf
  obtain ⟨A1, g1, hf⟩ := bs hf
  refine putf (pc' := 75) (va := (.int s0)) K sep X (i := 81) rfl d14_72 (t := 10) (f := 6) (by decide) rfl (Or.inl (wd K (i := 82) rfl)) (i2 := 6) rfl (ty := .int) (by decide) rfl rfl g1 rfl (fun T1 X1 => ?_)
  refine i_iinc (pc' := 78) (y := (1 : Int32)) (Ls' := #[.val (.ref (n0 + o0)), .val (.int i1), .val (.int (i2 + (1 : Int32)))]) K X1 d14_75 rfl rfl rfl rfl ?_
  refine i_goto (pc' := 17) K X1 d14_78 (by decide) (by decide) ?_
  exact H17 _ _ _ _ X1 o0 i1 (i2 + (1 : Int32)) () (show cells + 0 ≤ 0 by omega) (show slots + 0 ≤ 0 by omega) _ hf
def f14_47 (rec17 : AH → Nat → Int32 → Int32 → Option (AH)) (A : AH) (o0 : Nat) (i1 : Int32) (i2 : Int32) (u0 : Int64) (s1 : Int32) (r2 : Nat) : Option (AH) :=
  (h_aset A 3 r2 s1 (.long (u0 + ((i2).toInt64)))).bind fun A1 =>
  (asI (h_fget A1 10 o0 6)).bind fun v2 =>
  if (v2 + (1 : Int32)) = i1 then (f14_72 rec17 A1 o0 i1 i2 (0 : Int32) o0)
  else ((asI (h_fget A1 10 o0 6)).bind fun v3 =>
  f14_72 rec17 A1 o0 i1 i2 (v3 + (1 : Int32)) o0)
set_option maxRecDepth 65536 in
set_option maxHeartbeats 4000000 in
theorem w14_47 (K : Cx p l e own_R14 s m meth c Z a0 tables_1 "com/example/runnel/runnel/io/LineCounter" "writeRing" prog_13_method_15_code 3 none) (sep : ∀ t, Sep Z (own_D t).2) {rec17 : AH → Nat → Int32 → Int32 → Option (AH)} (H17 : ∀ (T : State) (A : AH) (cells slots : Nat), On p l e own_R14 s m args below meth c own_D Z n0 T A cells slots → ∀ (o0 : Nat) (i1 : Int32) (i2 : Int32) (_u : Unit), cells + 0 ≤ 0 → slots + 0 ≤ 0 → ∀ q, rec17 A o0 i1 i2 = some q → Go p e below (T.setTop (mkF m 17 #[.val (.ref (n0 + o0)), .val (.int i1), .val (.int i2)] [])) (Fini own_D Z n0 s own_R14 none q)) (X : On p l e own_R14 s m args below meth c own_D Z n0 T A cells slots) (o0 : Nat) (i1 : Int32) (i2 : Int32) (u0 : Int64) (s1 : Int32) (r2 : Nat) (hc : cells + 0 ≤ 0) (hs : slots + 0 ≤ 0) {q : AH} (hf : f14_47 rec17 A o0 i1 i2 u0 s1 r2 = some q) :
    Go p e below (T.setTop (mkF m 47 #[.val (.ref (n0 + o0)), .val (.int i1), .val (.int i2)] [(.long u0), (.int s1), (.ref (n0 + r2))])) (Fini own_D Z n0 s own_R14 none q) := by
  unfold f14_47 at hf
  refine i_iloadN (pc' := 48) K X d14_47 rfl rfl ?_
  refine i_i2l (pc' := 49) K X d14_48 rfl ?_
  refine i_ladd (pc' := 50) K X d14_49 rfl ?_
  obtain ⟨A1, g1, hf⟩ := bs hf
  refine ast3 (pc' := 51) K X g1 d14_50 rfl (fun T1 X1 => ?_)
  refine i_aloadN (pc' := 52) K X1 d14_51 rfl rfl rfl ?_
  refine i_aloadN (pc' := 53) K X1 d14_52 rfl rfl rfl ?_
  obtain ⟨v2, g2, hf⟩ := bs hf
  refine getfI (pc' := 56) K X1 (i := 81) rfl d14_53 (t := 10) (f := 6) (by decide) rfl g2 rfl (fun T2 X2 => ?_)
  refine i_iconst (pc' := 57) (v := (1 : Int32)) K X2 d14_56 rfl rfl ?_
  refine i_iadd (pc' := 58) K X2 d14_57 rfl ?_
  refine i_iloadN (pc' := 59) K X2 d14_58 rfl rfl ?_
  by_cases hc59 : (v2 + (1 : Int32)) = i1
  · rw [if_pos hc59] at hf
    refine i_icmpNo (pc' := 62) K X2 d14_59 rfl (teq hc59).2 ?_
    refine i_iconst (pc' := 63) (v := (0 : Int32)) K X2 d14_62 rfl rfl ?_
    refine i_goto (pc' := 72) K X2 d14_63 (by decide) (by decide) ?_
    exact w14_72 K sep H17 X2 o0 i1 i2 (0 : Int32) o0 (show cells + 0 ≤ 0 by omega) (show slots + 0 ≤ 0 by omega) hf
  · rw [if_neg hc59] at hf
    refine i_icmpYes (pc' := 66) K X2 d14_59 (feq hc59).2 (by decide) (by decide) ?_
    refine i_aloadN (pc' := 67) K X2 d14_66 rfl rfl rfl ?_
    obtain ⟨v3, g3, hf⟩ := bs hf
    refine getfI (pc' := 70) K X2 (i := 81) rfl d14_67 (t := 10) (f := 6) (by decide) rfl g3 rfl (fun T3 X3 => ?_)
    refine i_iconst (pc' := 71) (v := (1 : Int32)) K X3 d14_70 rfl rfl ?_
    refine i_iadd (pc' := 72) K X3 d14_71 rfl ?_
    exact w14_72 K sep H17 X3 o0 i1 i2 (v3 + (1 : Int32)) o0 (show cells + 0 ≤ 0 by omega) (show slots + 0 ≤ 0 by omega) hf
def g14_17 (rec17 : AH → Nat → Int32 → Int32 → Option (AH)) (A : AH) (o0 : Nat) (i1 : Int32) (i2 : Int32) : Option (AH) :=
  if i2 < i1 then ((asR (h_fget A 10 o0 1)).bind fun v2 =>
  (asI (h_fget A 10 o0 6)).bind fun v3 =>
  (asJ (h_fget A 10 o0 8)).bind fun v4 =>
  (h_aset A 3 v2 v3 (.long v4)).bind fun A5 =>
  (asR (h_fget A5 10 o0 2)).bind fun v6 =>
  (asI (h_fget A5 10 o0 6)).bind fun v7 =>
  (asJ (h_fget A5 10 o0 0)).bind fun v8 =>
  f14_47 rec17 A5 o0 i1 i2 v8 v7 v6)
  else ((h_fset A 10 o0 0 (.long (-1 : Int64))).bind fun A1 =>
  f14_88 A1 )
set_option maxRecDepth 65536 in
set_option maxHeartbeats 4000000 in
theorem v14_17 (K : Cx p l e own_R14 s m meth c Z a0 tables_1 "com/example/runnel/runnel/io/LineCounter" "writeRing" prog_13_method_15_code 3 none) (sep : ∀ t, Sep Z (own_D t).2) {rec17 : AH → Nat → Int32 → Int32 → Option (AH)} (H17 : ∀ (T : State) (A : AH) (cells slots : Nat), On p l e own_R14 s m args below meth c own_D Z n0 T A cells slots → ∀ (o0 : Nat) (i1 : Int32) (i2 : Int32) (_u : Unit), cells + 0 ≤ 0 → slots + 0 ≤ 0 → ∀ q, rec17 A o0 i1 i2 = some q → Go p e below (T.setTop (mkF m 17 #[.val (.ref (n0 + o0)), .val (.int i1), .val (.int i2)] [])) (Fini own_D Z n0 s own_R14 none q)) (X : On p l e own_R14 s m args below meth c own_D Z n0 T A cells slots) (o0 : Nat) (i1 : Int32) (i2 : Int32) (hc : cells + 0 ≤ 0) (hs : slots + 0 ≤ 0) {q : AH} (hf : g14_17 rec17 A o0 i1 i2 = some q) :
    Go p e below (T.setTop (mkF m 17 #[.val (.ref (n0 + o0)), .val (.int i1), .val (.int i2)] [])) (Fini own_D Z n0 s own_R14 none q) := by
  unfold g14_17 at hf
  refine i_iloadN (pc' := 18) K X d14_17 rfl rfl ?_
  refine i_iloadN (pc' := 19) K X d14_18 rfl rfl ?_
  by_cases hc19 : i2 < i1
  · rw [if_pos hc19] at hf
    refine i_icmpNo (pc' := 22) K X d14_19 rfl (tlt hc19).2.1 ?_
    refine i_aloadN (pc' := 23) K X d14_22 rfl rfl rfl ?_
    obtain ⟨v2, g2, hf⟩ := bs hf
    refine getfR (pc' := 26) K X (i := 18) rfl d14_23 (t := 10) (f := 1) (by decide) rfl g2 rfl (fun T2 X2 => ?_)
    refine i_aloadN (pc' := 27) K X2 d14_26 rfl rfl rfl ?_
    obtain ⟨v3, g3, hf⟩ := bs hf
    refine getfI (pc' := 30) K X2 (i := 81) rfl d14_27 (t := 10) (f := 6) (by decide) rfl g3 rfl (fun T3 X3 => ?_)
    refine i_aloadN (pc' := 31) K X3 d14_30 rfl rfl rfl ?_
    obtain ⟨v4, g4, hf⟩ := bs hf
    refine getfJ (pc' := 34) K X3 (i := 85) rfl d14_31 (t := 10) (f := 8) (by decide) rfl g4 rfl (fun T4 X4 => ?_)
    obtain ⟨A5, g5, hf⟩ := bs hf
    refine ast3 (pc' := 35) K X4 g5 d14_34 rfl (fun T5 X5 => ?_)
    refine i_aloadN (pc' := 36) K X5 d14_35 rfl rfl rfl ?_
    obtain ⟨v6, g6, hf⟩ := bs hf
    refine getfR (pc' := 39) K X5 (i := 20) rfl d14_36 (t := 10) (f := 2) (by decide) rfl g6 rfl (fun T6 X6 => ?_)
    refine i_aloadN (pc' := 40) K X6 d14_39 rfl rfl rfl ?_
    obtain ⟨v7, g7, hf⟩ := bs hf
    refine getfI (pc' := 43) K X6 (i := 81) rfl d14_40 (t := 10) (f := 6) (by decide) rfl g7 rfl (fun T7 X7 => ?_)
    refine i_aloadN (pc' := 44) K X7 d14_43 rfl rfl rfl ?_
    obtain ⟨v8, g8, hf⟩ := bs hf
    refine getfJ (pc' := 47) K X7 (i := 15) rfl d14_44 (t := 10) (f := 0) (by decide) rfl g8 rfl (fun T8 X8 => ?_)
    exact w14_47 K sep H17 X8 o0 i1 i2 v8 v7 v6 (show cells + 0 ≤ 0 by omega) (show slots + 0 ≤ 0 by omega) hf
  · rw [if_neg hc19] at hf
    refine i_icmpYes (pc' := 81) K X d14_19 (flt hc19).2.1 (by decide) (by decide) ?_
    refine i_aloadN (pc' := 82) K X d14_81 rfl rfl rfl ?_
    refine ldcL (pc' := 85) (v := (-1 : Int64)) K X (i := 14) rfl d14_82 rfl ?_
    obtain ⟨A1, g1, hf⟩ := bs hf
    refine putf (pc' := 88) (va := (.long (-1 : Int64))) K sep X (i := 15) rfl d14_85 (t := 10) (f := 0) (by decide) rfl (Or.inl (wd K (i := 16) rfl)) (i2 := 6) rfl (ty := .long) (by decide) rfl rfl g1 rfl (fun T1 X1 => ?_)
    exact w14_88 K sep X1 o0 (.val (.int i1)) (One.val rfl) (.val (.int i2)) (One.val rfl) (show cells + 0 ≤ 0 by omega) (show slots + 0 ≤ 0 by omega) hf
def f14_17 : Nat → AH → Nat → Int32 → Int32 → Option (AH)
  | 0 => fun _ _ _ _ => none
  | k + 1 => g14_17 (f14_17 k)
theorem w14_17 (K : Cx p l e own_R14 s m meth c Z a0 tables_1 "com/example/runnel/runnel/io/LineCounter" "writeRing" prog_13_method_15_code 3 none) (sep : ∀ t, Sep Z (own_D t).2) : ∀ (k : Nat) (T : State) (A : AH) (cells slots : Nat), On p l e own_R14 s m args below meth c own_D Z n0 T A cells slots → ∀ (o0 : Nat) (i1 : Int32) (i2 : Int32) (_u : Unit), cells + 0 ≤ 0 → slots + 0 ≤ 0 → ∀ q, f14_17 k A o0 i1 i2 = some q → Go p e below (T.setTop (mkF m 17 #[.val (.ref (n0 + o0)), .val (.int i1), .val (.int i2)] [])) (Fini own_D Z n0 s own_R14 none q) := by
  intro k
  induction k with
  | zero => intro T A cells slots X o0 i1 i2 _ hc hs q hf; exact nomatch hf
  | succ k ih => intro T A cells slots X o0 i1 i2 _ hc hs q hf; exact v14_17 K sep ih X o0 i1 i2 hc hs hf
def f14_0 (A : AH) (o0 : Nat) : Option (AH) :=
  (asJ (h_fget A 10 o0 0)).bind fun v1 =>
  if v1 < (0 : Int64) then (f14_88 A )
  else ((asR (h_fget A 10 o0 2)).bind fun v2 =>
  (h_alen A 3 v2).bind fun v3 =>
  f14_17 8 A o0 v3 (0 : Int32))
set_option maxRecDepth 65536 in
set_option maxHeartbeats 4000000 in
theorem w14_0 (K : Cx p l e own_R14 s m meth c Z a0 tables_1 "com/example/runnel/runnel/io/LineCounter" "writeRing" prog_13_method_15_code 3 none) (sep : ∀ t, Sep Z (own_D t).2) (X : On p l e own_R14 s m args below meth c own_D Z n0 T A cells slots) (o0 : Nat) (hc : cells + 0 ≤ 0) (hs : slots + 0 ≤ 0) {q : AH} (hf : f14_0 A o0 = some q) :
    Go p e below (T.setTop (mkF m 0 #[.val (.ref (n0 + o0)), .unset, .unset] [])) (Fini own_D Z n0 s own_R14 none q) := by
  unfold f14_0 at hf
  refine i_aloadN (pc' := 1) K X d14_0 rfl rfl rfl ?_
  obtain ⟨v1, g1, hf⟩ := bs hf
  refine getfJ (pc' := 4) K X (i := 15) rfl d14_1 (t := 10) (f := 0) (by decide) rfl g1 rfl (fun T1 X1 => ?_)
  refine i_lconst (pc' := 5) (v := (0 : Int64)) K X1 d14_4 rfl rfl ?_
  refine i_lcmp (pc' := 6) K X1 d14_5 rfl ?_
  by_cases hc6 : v1 < (0 : Int64)
  · rw [if_pos hc6] at hf
    refine i_ifYes (pc' := 88) K X1 d14_6 (tlt ((lw_lt _ _).mpr hc6)).1 (by decide) (by decide) ?_
    exact w14_88 K sep X1 o0 .unset One.u .unset One.u (show cells + 0 ≤ 0 by omega) (show slots + 0 ≤ 0 by omega) hf
  · rw [if_neg hc6] at hf
    refine i_ifNo (pc' := 9) K X1 d14_6 rfl (flt (fun z => hc6 ((lw_lt _ _).mp z))).1 ?_
    refine i_aloadN (pc' := 10) K X1 d14_9 rfl rfl rfl ?_
    obtain ⟨v2, g2, hf⟩ := bs hf
    refine getfR (pc' := 13) K X1 (i := 20) rfl d14_10 (t := 10) (f := 2) (by decide) rfl g2 rfl (fun T2 X2 => ?_)
    obtain ⟨v3, g3, hf⟩ := bs hf
    refine h_alen' (pc' := 14) K X2 (t := 3) (by decide) g3 d14_13 rfl ?_
    refine i_istoreN (pc' := 15) (Ls' := #[.val (.ref (n0 + o0)), .val (.int v3), .unset]) K X2 d14_14 rfl rfl ?_
    refine i_iconst (pc' := 16) (v := (0 : Int32)) K X2 d14_15 rfl rfl ?_
    refine i_istoreN (pc' := 17) (Ls' := #[.val (.ref (n0 + o0)), .val (.int v3), .val (.int (0 : Int32))]) K X2 d14_16 rfl rfl ?_
    exact w14_17 K sep 8 _ _ _ _ X2 o0 v3 (0 : Int32) () (show cells + 0 ≤ 0 by omega) (show slots + 0 ≤ 0 by omega) _ hf
theorem pn_14 : plainName "com/example/runnel/runnel/io/LineCounter" = true := by first | (simp [plainName, overriddenIn]; done) | decide +kernel
theorem rm14 {l : Launch} {Z : State} {a0 : Array Value} {n0 : Nat} (hw : ∀ d ∈ tables_1, d.before a0 Z = true) (A : AH) (o0 : Nat) {q : AH} (hf : f14_0 A o0 = some q) :
    Met l own_D Z n0 (⟨"com/example/runnel/runnel/io/LineCounter", "writeRing", "()V"⟩ : MethodName) prog_13_method_15_code 3 none own_R14 [(.ref (n0 + o0))] A none q :=
  met (W := tables_1) (a0 := a0) (own := "com/example/runnel/runnel/io/LineCounter") (nm := "writeRing") (L0 := #[.val (.ref (n0 + o0)), .unset, .unset]) (plainFor_of_name pn_14) hw rfl rfl (fun m => by first | (simp [entryFrame, mkF, argsToLocals, Value.category]; done) | rfl) (fun p e s m below meth c T K X => w14_0 K (own_sep hw) X o0 (show 0 + 0 ≤ 0 by decide) (show 0 + 0 ≤ 0 by decide) hf)
/-! body 13: LineCounter.remember()V -/
theorem d13_0 : decode prog_13_method_20_code 0 = .ok (.aload_n 0, 1) := by decide +kernel
theorem d13_1 : decode prog_13_method_20_code 1 = .ok (.invokevirtual 79, 3) := by decide +kernel
theorem d13_4 : decode prog_13_method_20_code 4 = .ok (.aload_n 0, 1) := by decide +kernel
theorem d13_5 : decode prog_13_method_20_code 5 = .ok (.getfield 15, 3) := by decide +kernel
theorem d13_8 : decode prog_13_method_20_code 8 = .ok (.aload_n 0, 1) := by decide +kernel
theorem d13_9 : decode prog_13_method_20_code 9 = .ok (.getfield 82, 3) := by decide +kernel
theorem d13_12 : decode prog_13_method_20_code 12 = .ok (.aload_n 0, 1) := by decide +kernel
theorem d13_13 : decode prog_13_method_20_code 13 = .ok (.getfield 22, 3) := by decide +kernel
theorem d13_16 : decode prog_13_method_20_code 16 = .ok (.lastore, 1) := by decide +kernel
theorem d13_17 : decode prog_13_method_20_code 17 = .ok (.aload_n 0, 1) := by decide +kernel
theorem d13_18 : decode prog_13_method_20_code 18 = .ok (.getfield 19, 3) := by decide +kernel
theorem d13_21 : decode prog_13_method_20_code 21 = .ok (.aload_n 0, 1) := by decide +kernel
theorem d13_22 : decode prog_13_method_20_code 22 = .ok (.getfield 82, 3) := by decide +kernel
theorem d13_25 : decode prog_13_method_20_code 25 = .ok (.aload_n 0, 1) := by decide +kernel
theorem d13_26 : decode prog_13_method_20_code 26 = .ok (.getfield 72, 3) := by decide +kernel
theorem d13_29 : decode prog_13_method_20_code 29 = .ok (.ifCond .eq 9, 3) := by decide +kernel
theorem d13_32 : decode prog_13_method_20_code 32 = .ok (.ldc2_w 7, 3) := by decide +kernel
theorem d13_35 : decode prog_13_method_20_code 35 = .ok (.goto 7, 3) := by decide +kernel
theorem d13_38 : decode prog_13_method_20_code 38 = .ok (.aload_n 0, 1) := by decide +kernel
theorem d13_39 : decode prog_13_method_20_code 39 = .ok (.getfield 25, 3) := by decide +kernel
theorem d13_42 : decode prog_13_method_20_code 42 = .ok (.lastore, 1) := by decide +kernel
theorem d13_43 : decode prog_13_method_20_code 43 = .ok (.aload_n 0, 1) := by decide +kernel
theorem d13_44 : decode prog_13_method_20_code 44 = .ok (.dup, 1) := by decide +kernel
theorem d13_45 : decode prog_13_method_20_code 45 = .ok (.getfield 82, 3) := by decide +kernel
theorem d13_48 : decode prog_13_method_20_code 48 = .ok (.iconst 1, 1) := by decide +kernel
theorem d13_49 : decode prog_13_method_20_code 49 = .ok (.iadd, 1) := by decide +kernel
theorem d13_50 : decode prog_13_method_20_code 50 = .ok (.dup_x1, 1) := by decide +kernel
theorem d13_51 : decode prog_13_method_20_code 51 = .ok (.putfield 82, 3) := by decide +kernel
theorem d13_54 : decode prog_13_method_20_code 54 = .ok (.aload_n 0, 1) := by decide +kernel
theorem d13_55 : decode prog_13_method_20_code 55 = .ok (.getfield 19, 3) := by decide +kernel
theorem d13_58 : decode prog_13_method_20_code 58 = .ok (.arraylength, 1) := by decide +kernel
theorem d13_59 : decode prog_13_method_20_code 59 = .ok (.if_icmp .ne 8, 3) := by decide +kernel
theorem d13_62 : decode prog_13_method_20_code 62 = .ok (.aload_n 0, 1) := by decide +kernel
theorem d13_63 : decode prog_13_method_20_code 63 = .ok (.iconst 0, 1) := by decide +kernel
theorem d13_64 : decode prog_13_method_20_code 64 = .ok (.putfield 82, 3) := by decide +kernel
theorem d13_67 : decode prog_13_method_20_code 67 = .ok (.aload_n 0, 1) := by decide +kernel
theorem d13_68 : decode prog_13_method_20_code 68 = .ok (.getfield 68, 3) := by decide +kernel
theorem d13_71 : decode prog_13_method_20_code 71 = .ok (.aload_n 0, 1) := by decide +kernel
theorem d13_72 : decode prog_13_method_20_code 72 = .ok (.getfield 19, 3) := by decide +kernel
theorem d13_75 : decode prog_13_method_20_code 75 = .ok (.arraylength, 1) := by decide +kernel
theorem d13_76 : decode prog_13_method_20_code 76 = .ok (.if_icmp .ge 13, 3) := by decide +kernel
theorem d13_79 : decode prog_13_method_20_code 79 = .ok (.aload_n 0, 1) := by decide +kernel
theorem d13_80 : decode prog_13_method_20_code 80 = .ok (.dup, 1) := by decide +kernel
theorem d13_81 : decode prog_13_method_20_code 81 = .ok (.getfield 68, 3) := by decide +kernel
theorem d13_84 : decode prog_13_method_20_code 84 = .ok (.iconst 1, 1) := by decide +kernel
theorem d13_85 : decode prog_13_method_20_code 85 = .ok (.iadd, 1) := by decide +kernel
theorem d13_86 : decode prog_13_method_20_code 86 = .ok (.putfield 68, 3) := by decide +kernel
theorem d13_89 : decode prog_13_method_20_code 89 = .ok (.return_, 1) := by decide +kernel
theorem pd_13 : parseMethodDescriptor "()V" = some ⟨[], none⟩ := by decide +kernel
abbrev own_R13 : Room := { frames := 1, cells := 0, slots := 0, locals := 14 }
def f13_89 (A : AH)  : Option (AH) :=
  some A
set_option maxRecDepth 65536 in
set_option maxHeartbeats 4000000 in
theorem w13_89 (K : Cx p l e own_R13 s m meth c Z a0 tables_1 "com/example/runnel/runnel/io/LineCounter" "remember" prog_13_method_20_code 1 none) (sep : ∀ t, Sep Z (own_D t).2) (X : On p l e own_R13 s m args below meth c own_D Z n0 T A cells slots) (o0 : Nat) (hc : cells + 0 ≤ 0) (hs : slots + 0 ≤ 0) {q : AH} (hf : f13_89 A  = some q) :
    Go p e below (T.setTop (mkF m 89 #[.val (.ref (n0 + o0))] [])) (Fini own_D Z n0 s own_R13 none q) := by
  unfold f13_89 at hf
  cases hf
  exact retV K X (show cells ≤ 0 by omega) (show slots ≤ 0 by omega) d13_89
def f13_67 (A : AH) (o0 : Nat) : Option (AH) :=
  (asI (h_fget A 10 o0 7)).bind fun v1 =>
  (asR (h_fget A 10 o0 2)).bind fun v2 =>
  (h_alen A 3 v2).bind fun v3 =>
  if v1 < v3 then ((asI (h_fget A 10 o0 7)).bind fun v4 =>
  (h_fset A 10 o0 7 (.int (v4 + (1 : Int32)))).bind fun A5 =>
  f13_89 A5 )
  else (f13_89 A )
set_option maxRecDepth 65536 in
set_option maxHeartbeats 4000000 in
theorem w13_67 (K : Cx p l e own_R13 s m meth c Z a0 tables_1 "com/example/runnel/runnel/io/LineCounter" "remember" prog_13_method_20_code 1 none) (sep : ∀ t, Sep Z (own_D t).2) (X : On p l e own_R13 s m args below meth c own_D Z n0 T A cells slots) (o0 : Nat) (hc : cells + 0 ≤ 0) (hs : slots + 0 ≤ 0) {q : AH} (hf : f13_67 A o0 = some q) :
    Go p e below (T.setTop (mkF m 67 #[.val (.ref (n0 + o0))] [])) (Fini own_D Z n0 s own_R13 none q) := by
  unfold f13_67 at hf
  refine i_aloadN (pc' := 68) K X d13_67 rfl rfl rfl ?_
  obtain ⟨v1, g1, hf⟩ := bs hf
  refine getfI (pc' := 71) K X (i := 83) rfl d13_68 (t := 10) (f := 7) (by decide) rfl g1 rfl (fun T1 X1 => ?_)
  refine i_aloadN (pc' := 72) K X1 d13_71 rfl rfl rfl ?_
  obtain ⟨v2, g2, hf⟩ := bs hf
  refine getfR (pc' := 75) K X1 (i := 20) rfl d13_72 (t := 10) (f := 2) (by decide) rfl g2 rfl (fun T2 X2 => ?_)
  obtain ⟨v3, g3, hf⟩ := bs hf
  refine h_alen' (pc' := 76) K X2 (t := 3) (by decide) g3 d13_75 rfl ?_
  by_cases hc76 : v1 < v3
  · rw [if_pos hc76] at hf
    refine i_icmpNo (pc' := 79) K X2 d13_76 rfl (tlt hc76).2.1 ?_
    refine i_aloadN (pc' := 80) K X2 d13_79 rfl rfl rfl ?_
    refine i_dup (pc' := 81) K X2 d13_80 rfl rfl ?_
    obtain ⟨v4, g4, hf⟩ := bs hf
    refine getfI (pc' := 84) K X2 (i := 83) rfl d13_81 (t := 10) (f := 7) (by decide) rfl g4 rfl (fun T4 X4 => ?_)
    refine i_iconst (pc' := 85) (v := (1 : Int32)) K X4 d13_84 rfl rfl ?_
    refine i_iadd (pc' := 86) K X4 d13_85 rfl ?_
    obtain ⟨A5, g5, hf⟩ := bs hf
    refine putf (pc' := 89) (va := (.int (v4 + (1 : Int32)))) K sep X4 (i := 83) rfl d13_86 (t := 10) (f := 7) (by decide) rfl (Or.inl (wd K (i := 84) rfl)) (i2 := 6) rfl (ty := .int) (by decide) rfl rfl g5 rfl (fun T5 X5 => ?_)
    exact w13_89 K sep X5 o0 (show cells + 0 ≤ 0 by omega) (show slots + 0 ≤ 0 by omega) hf
  · rw [if_neg hc76] at hf
    refine i_icmpYes (pc' := 89) K X2 d13_76 (flt hc76).2.1 (by decide) (by decide) ?_
    exact w13_89 K sep X2 o0 (show cells + 0 ≤ 0 by omega) (show slots + 0 ≤ 0 by omega) hf
def f13_42 (A : AH) (o0 : Nat) (u0 : Int64) (s1 : Int32) (r2 : Nat) : Option (AH) :=
  (h_aset A 3 r2 s1 (.long u0)).bind fun A1 =>
  (asI (h_fget A1 10 o0 6)).bind fun v2 =>
  (h_fset A1 10 o0 6 (.int (v2 + (1 : Int32)))).bind fun A3 =>
  (asR (h_fget A3 10 o0 2)).bind fun v4 =>
  (h_alen A3 3 v4).bind fun v5 =>
  if (v2 + (1 : Int32)) = v5 then ((h_fset A3 10 o0 6 (.int (0 : Int32))).bind fun A6 =>
  f13_67 A6 o0)
  else (f13_67 A3 o0)
set_option maxRecDepth 65536 in
set_option maxHeartbeats 4000000 in
theorem w13_42 (K : Cx p l e own_R13 s m meth c Z a0 tables_1 "com/example/runnel/runnel/io/LineCounter" "remember" prog_13_method_20_code 1 none) (sep : ∀ t, Sep Z (own_D t).2) (X : On p l e own_R13 s m args below meth c own_D Z n0 T A cells slots) (o0 : Nat) (u0 : Int64) (s1 : Int32) (r2 : Nat) (hc : cells + 0 ≤ 0) (hs : slots + 0 ≤ 0) {q : AH} (hf : f13_42 A o0 u0 s1 r2 = some q) :
    Go p e below (T.setTop (mkF m 42 #[.val (.ref (n0 + o0))] [(.long u0), (.int s1), (.ref (n0 + r2))])) (Fini own_D Z n0 s own_R13 none q) := by
  unfold f13_42 at hf
  obtain ⟨A1, g1, hf⟩ := bs hf
  refine ast3 (pc' := 43) K X g1 d13_42 rfl (fun T1 X1 => ?_)
  refine i_aloadN (pc' := 44) K X1 d13_43 rfl rfl rfl ?_
  refine i_dup (pc' := 45) K X1 d13_44 rfl rfl ?_
  obtain ⟨v2, g2, hf⟩ := bs hf
  refine getfI (pc' := 48) K X1 (i := 81) rfl d13_45 (t := 10) (f := 6) (by decide) rfl g2 rfl (fun T2 X2 => ?_)
  refine i_iconst (pc' := 49) (v := (1 : Int32)) K X2 d13_48 rfl rfl ?_
  refine i_iadd (pc' := 50) K X2 d13_49 rfl ?_
  refine i_dupX1 (pc' := 51) K X2 d13_50 rfl rfl rfl ?_
  obtain ⟨A3, g3, hf⟩ := bs hf
  refine putf (pc' := 54) (va := (.int (v2 + (1 : Int32)))) K sep X2 (i := 81) rfl d13_51 (t := 10) (f := 6) (by decide) rfl (Or.inl (wd K (i := 82) rfl)) (i2 := 6) rfl (ty := .int) (by decide) rfl rfl g3 rfl (fun T3 X3 => ?_)
  refine i_aloadN (pc' := 55) K X3 d13_54 rfl rfl rfl ?_
  obtain ⟨v4, g4, hf⟩ := bs hf
  refine getfR (pc' := 58) K X3 (i := 20) rfl d13_55 (t := 10) (f := 2) (by decide) rfl g4 rfl (fun T4 X4 => ?_)
  obtain ⟨v5, g5, hf⟩ := bs hf
  refine h_alen' (pc' := 59) K X4 (t := 3) (by decide) g5 d13_58 rfl ?_
  by_cases hc59 : (v2 + (1 : Int32)) = v5
  · rw [if_pos hc59] at hf
    refine i_icmpNo (pc' := 62) K X4 d13_59 rfl (teq hc59).2 ?_
    refine i_aloadN (pc' := 63) K X4 d13_62 rfl rfl rfl ?_
    refine i_iconst (pc' := 64) (v := (0 : Int32)) K X4 d13_63 rfl rfl ?_
    obtain ⟨A6, g6, hf⟩ := bs hf
    refine putf (pc' := 67) (va := (.int (0 : Int32))) K sep X4 (i := 81) rfl d13_64 (t := 10) (f := 6) (by decide) rfl (Or.inl (wd K (i := 82) rfl)) (i2 := 6) rfl (ty := .int) (by decide) rfl rfl g6 rfl (fun T6 X6 => ?_)
    exact w13_67 K sep X6 o0 (show cells + 0 ≤ 0 by omega) (show slots + 0 ≤ 0 by omega) hf
  · rw [if_neg hc59] at hf
    refine i_icmpYes (pc' := 67) K X4 d13_59 (feq hc59).2 (by decide) (by decide) ?_
    exact w13_67 K sep X4 o0 (show cells + 0 ≤ 0 by omega) (show slots + 0 ≤ 0 by omega) hf
def f13_38 (A : AH) (o0 : Nat) (s0 : Int32) (r1 : Nat) : Option (AH) :=
  (asJ (h_fget A 10 o0 4)).bind fun v1 =>
  f13_42 A o0 v1 s0 r1
set_option maxRecDepth 65536 in
set_option maxHeartbeats 4000000 in
theorem w13_38 (K : Cx p l e own_R13 s m meth c Z a0 tables_1 "com/example/runnel/runnel/io/LineCounter" "remember" prog_13_method_20_code 1 none) (sep : ∀ t, Sep Z (own_D t).2) (X : On p l e own_R13 s m args below meth c own_D Z n0 T A cells slots) (o0 : Nat) (s0 : Int32) (r1 : Nat) (hc : cells + 0 ≤ 0) (hs : slots + 0 ≤ 0) {q : AH} (hf : f13_38 A o0 s0 r1 = some q) :
    Go p e below (T.setTop (mkF m 38 #[.val (.ref (n0 + o0))] [(.int s0), (.ref (n0 + r1))])) (Fini own_D Z n0 s own_R13 none q) := by
  unfold f13_38 at hf
  refine i_aloadN (pc' := 39) K X d13_38 rfl rfl rfl ?_
  obtain ⟨v1, g1, hf⟩ := bs hf
  refine getfJ (pc' := 42) K X (i := 52) rfl d13_39 (t := 10) (f := 4) (by decide) rfl g1 rfl (fun T1 X1 => ?_)
  exact w13_42 K sep X1 o0 v1 s0 r1 (show cells + 0 ≤ 0 by omega) (show slots + 0 ≤ 0 by omega) hf
def f13_32 (A : AH) (o0 : Nat) (s0 : Int32) (r1 : Nat) : Option (AH) :=
  f13_42 A o0 (-1 : Int64) s0 r1
set_option maxRecDepth 65536 in
set_option maxHeartbeats 4000000 in
theorem w13_32 (K : Cx p l e own_R13 s m meth c Z a0 tables_1 "com/example/runnel/runnel/io/LineCounter" "remember" prog_13_method_20_code 1 none) (sep : ∀ t, Sep Z (own_D t).2) (X : On p l e own_R13 s m args below meth c own_D Z n0 T A cells slots) (o0 : Nat) (s0 : Int32) (r1 : Nat) (hc : cells + 0 ≤ 0) (hs : slots + 0 ≤ 0) {q : AH} (hf : f13_32 A o0 s0 r1 = some q) :
    Go p e below (T.setTop (mkF m 32 #[.val (.ref (n0 + o0))] [(.int s0), (.ref (n0 + r1))])) (Fini own_D Z n0 s own_R13 none q) := by
  unfold f13_32 at hf
  refine ldcL (pc' := 35) (v := (-1 : Int64)) K X (i := 14) rfl d13_32 rfl ?_
  refine i_goto (pc' := 42) K X d13_35 (by decide) (by decide) ?_
  exact w13_42 K sep X o0 (-1 : Int64) s0 r1 (show cells + 0 ≤ 0 by omega) (show slots + 0 ≤ 0 by omega) hf
def f13_0 (A : AH) (o0 : Nat) : Option (AH) :=
  (h_isA A 10 o0).bind fun y2 =>
  (f14_0 A o0).bind fun A1 =>
  (asR (h_fget A1 10 o0 1)).bind fun v3 =>
  (asI (h_fget A1 10 o0 6)).bind fun v4 =>
  (asJ (h_fget A1 10 o0 3)).bind fun v5 =>
  (h_aset A1 3 v3 v4 (.long v5)).bind fun A6 =>
  (asR (h_fget A6 10 o0 2)).bind fun v7 =>
  (asI (h_fget A6 10 o0 6)).bind fun v8 =>
  (asI (h_fget A6 10 o0 5)).bind fun v9 =>
  if v9 = (0 : Int32) then (f13_38 A6 o0 v8 v7)
  else (f13_32 A6 o0 v8 v7)
set_option maxRecDepth 65536 in
set_option maxHeartbeats 4000000 in
theorem w13_0 (K : Cx p l e own_R13 s m meth c Z a0 tables_1 "com/example/runnel/runnel/io/LineCounter" "remember" prog_13_method_20_code 1 none) (sep : ∀ t, Sep Z (own_D t).2) (X : On p l e own_R13 s m args below meth c own_D Z n0 T A cells slots) (o0 : Nat) (hc : cells + 0 ≤ 0) (hs : slots + 0 ≤ 0) {q : AH} (hf : f13_0 A o0 = some q) :
    Go p e below (T.setTop (mkF m 0 #[.val (.ref (n0 + o0))] [])) (Fini own_D Z n0 s own_R13 none q) := by
  unfold f13_0 at hf
  refine i_aloadN (pc' := 1) K X d13_0 rfl rfl rfl ?_
  obtain ⟨y2, g2, hf⟩ := bs hf
  obtain ⟨A1, g1, hf⟩ := bs hf
  refine callp (pc' := 4) (kc := cells) (ks := slots) (S' := []) (st := []) K X (i1 := 77) rfl (i2 := 79) rfl (i5 := 6) (t := 10) rfl (i6 := 78) rfl (i3 := 7) rfl (i4 := 80) rfl (by decide) (by decide) g2 (rm14 (l := l) (n0 := n0) (K.2.2.2.2.2.2.2.2) A o0 g1) pd_14 rfl d13_1 rfl rfl (by decide) (w := 0) (Nat.le_of_eq rfl) (by decide) (show cells + 0 ≤ 0 by omega) (show slots + 0 ≤ 0 by omega) rfl rfl rfl rfl (fun T1 X1 => ?_)
  refine i_aloadN (pc' := 5) K X1 d13_4 rfl rfl rfl ?_
  obtain ⟨v3, g3, hf⟩ := bs hf
  refine getfR (pc' := 8) K X1 (i := 18) rfl d13_5 (t := 10) (f := 1) (by decide) rfl g3 rfl (fun T3 X3 => ?_)
  refine i_aloadN (pc' := 9) K X3 d13_8 rfl rfl rfl ?_
  obtain ⟨v4, g4, hf⟩ := bs hf
  refine getfI (pc' := 12) K X3 (i := 81) rfl d13_9 (t := 10) (f := 6) (by decide) rfl g4 rfl (fun T4 X4 => ?_)
  refine i_aloadN (pc' := 13) K X4 d13_12 rfl rfl rfl ?_
  obtain ⟨v5, g5, hf⟩ := bs hf
  refine getfJ (pc' := 16) K X4 (i := 40) rfl d13_13 (t := 10) (f := 3) (by decide) rfl g5 rfl (fun T5 X5 => ?_)
  obtain ⟨A6, g6, hf⟩ := bs hf
  refine ast3 (pc' := 17) K X5 g6 d13_16 rfl (fun T6 X6 => ?_)
  refine i_aloadN (pc' := 18) K X6 d13_17 rfl rfl rfl ?_
  obtain ⟨v7, g7, hf⟩ := bs hf
  refine getfR (pc' := 21) K X6 (i := 20) rfl d13_18 (t := 10) (f := 2) (by decide) rfl g7 rfl (fun T7 X7 => ?_)
  refine i_aloadN (pc' := 22) K X7 d13_21 rfl rfl rfl ?_
  obtain ⟨v8, g8, hf⟩ := bs hf
  refine getfI (pc' := 25) K X7 (i := 81) rfl d13_22 (t := 10) (f := 6) (by decide) rfl g8 rfl (fun T8 X8 => ?_)
  refine i_aloadN (pc' := 26) K X8 d13_25 rfl rfl rfl ?_
  obtain ⟨v9, g9, hf⟩ := bs hf
  refine getfI (pc' := 29) K X8 (i := 68) rfl d13_26 (t := 10) (f := 5) (by decide) rfl g9 rfl (fun T9 X9 => ?_)
  by_cases hc29 : v9 = (0 : Int32)
  · rw [if_pos hc29] at hf
    refine i_ifYes (pc' := 38) K X9 d13_29 (teq hc29).1 (by decide) (by decide) ?_
    exact w13_38 K sep X9 o0 v8 v7 (show cells + 0 ≤ 0 by omega) (show slots + 0 ≤ 0 by omega) hf
  · rw [if_neg hc29] at hf
    refine i_ifNo (pc' := 32) K X9 d13_29 rfl (feq hc29).1 ?_
    exact w13_32 K sep X9 o0 v8 v7 (show cells + 0 ≤ 0 by omega) (show slots + 0 ≤ 0 by omega) hf
theorem pn_13 : plainName "com/example/runnel/runnel/io/LineCounter" = true := by first | (simp [plainName, overriddenIn]; done) | decide +kernel
theorem rm13 {l : Launch} {Z : State} {a0 : Array Value} {n0 : Nat} (hw : ∀ d ∈ tables_1, d.before a0 Z = true) (A : AH) (o0 : Nat) {q : AH} (hf : f13_0 A o0 = some q) :
    Met l own_D Z n0 (⟨"com/example/runnel/runnel/io/LineCounter", "remember", "()V"⟩ : MethodName) prog_13_method_20_code 1 none own_R13 [(.ref (n0 + o0))] A none q :=
  met (W := tables_1) (a0 := a0) (own := "com/example/runnel/runnel/io/LineCounter") (nm := "remember") (L0 := #[.val (.ref (n0 + o0))]) (plainFor_of_name pn_13) hw rfl rfl (fun m => by first | (simp [entryFrame, mkF, argsToLocals, Value.category]; done) | rfl) (fun p e s m below meth c T K X => w13_0 K (own_sep hw) X o0 (show 0 + 0 ≤ 0 by decide) (show 0 + 0 ≤ 0 by decide) hf)
/-! body 11: LineCounter.advance(C)V -/
theorem d11_0 : decode prog_13_method_19_code 0 = .ok (.iload_n 1, 1) := by decide +kernel
theorem d11_1 : decode prog_13_method_19_code 1 = .ok (.bipush 13, 2) := by decide +kernel
theorem d11_3 : decode prog_13_method_19_code 3 = .ok (.if_icmp .eq 16, 3) := by decide +kernel
theorem d11_6 : decode prog_13_method_19_code 6 = .ok (.iload_n 1, 1) := by decide +kernel
theorem d11_7 : decode prog_13_method_19_code 7 = .ok (.bipush 10, 2) := by decide +kernel
theorem d11_9 : decode prog_13_method_19_code 9 = .ok (.if_icmp .ne 28, 3) := by decide +kernel
theorem d11_12 : decode prog_13_method_19_code 12 = .ok (.aload_n 0, 1) := by decide +kernel
theorem d11_13 : decode prog_13_method_19_code 13 = .ok (.getfield 72, 3) := by decide +kernel
theorem d11_16 : decode prog_13_method_19_code 16 = .ok (.ifCond .ne 21, 3) := by decide +kernel
theorem d11_19 : decode prog_13_method_19_code 19 = .ok (.aload_n 0, 1) := by decide +kernel
theorem d11_20 : decode prog_13_method_19_code 20 = .ok (.dup, 1) := by decide +kernel
theorem d11_21 : decode prog_13_method_19_code 21 = .ok (.getfield 22, 3) := by decide +kernel
theorem d11_24 : decode prog_13_method_19_code 24 = .ok (.lconst 1, 1) := by decide +kernel
theorem d11_25 : decode prog_13_method_19_code 25 = .ok (.ladd, 1) := by decide +kernel
theorem d11_26 : decode prog_13_method_19_code 26 = .ok (.putfield 22, 3) := by decide +kernel
theorem d11_29 : decode prog_13_method_19_code 29 = .ok (.aload_n 0, 1) := by decide +kernel
theorem d11_30 : decode prog_13_method_19_code 30 = .ok (.lconst 0, 1) := by decide +kernel
theorem d11_31 : decode prog_13_method_19_code 31 = .ok (.putfield 25, 3) := by decide +kernel
theorem d11_34 : decode prog_13_method_19_code 34 = .ok (.goto 19, 3) := by decide +kernel
theorem d11_37 : decode prog_13_method_19_code 37 = .ok (.iload_n 1, 1) := by decide +kernel
theorem d11_38 : decode prog_13_method_19_code 38 = .ok (.bipush 10, 2) := by decide +kernel
theorem d11_40 : decode prog_13_method_19_code 40 = .ok (.if_icmp .eq 13, 3) := by decide +kernel
theorem d11_43 : decode prog_13_method_19_code 43 = .ok (.aload_n 0, 1) := by decide +kernel
theorem d11_44 : decode prog_13_method_19_code 44 = .ok (.dup, 1) := by decide +kernel
theorem d11_45 : decode prog_13_method_19_code 45 = .ok (.getfield 25, 3) := by decide +kernel
theorem d11_48 : decode prog_13_method_19_code 48 = .ok (.lconst 1, 1) := by decide +kernel
theorem d11_49 : decode prog_13_method_19_code 49 = .ok (.ladd, 1) := by decide +kernel
theorem d11_50 : decode prog_13_method_19_code 50 = .ok (.putfield 25, 3) := by decide +kernel
theorem d11_53 : decode prog_13_method_19_code 53 = .ok (.aload_n 0, 1) := by decide +kernel
theorem d11_54 : decode prog_13_method_19_code 54 = .ok (.iload_n 1, 1) := by decide +kernel
theorem d11_55 : decode prog_13_method_19_code 55 = .ok (.bipush 13, 2) := by decide +kernel
theorem d11_57 : decode prog_13_method_19_code 57 = .ok (.if_icmp .ne 7, 3) := by decide +kernel
theorem d11_60 : decode prog_13_method_19_code 60 = .ok (.iconst 1, 1) := by decide +kernel
theorem d11_61 : decode prog_13_method_19_code 61 = .ok (.goto 4, 3) := by decide +kernel
theorem d11_64 : decode prog_13_method_19_code 64 = .ok (.iconst 0, 1) := by decide +kernel
theorem d11_65 : decode prog_13_method_19_code 65 = .ok (.putfield 72, 3) := by decide +kernel
theorem d11_68 : decode prog_13_method_19_code 68 = .ok (.return_, 1) := by decide +kernel
theorem pd_11 : parseMethodDescriptor "(C)V" = some ⟨[.char], none⟩ := by decide +kernel
abbrev own_R11 : Room := { frames := 0, cells := 0, slots := 0, locals := 0 }
def f11_65 (A : AH) (s0 : Int32) (r1 : Nat) : Option (AH) :=
  (h_fset A 10 r1 5 (.int (nar .boolean s0))).bind fun A1 =>
  some A1
set_option maxRecDepth 65536 in
set_option maxHeartbeats 4000000 in
theorem w11_65 (K : Cx p l e own_R11 s m meth c Z a0 tables_1 "com/example/runnel/runnel/io/LineCounter" "advance" prog_13_method_19_code 2 none) (sep : ∀ t, Sep Z (own_D t).2) (X : On p l e own_R11 s m args below meth c own_D Z n0 T A cells slots) (o0 : Nat) (i1 : Int32) (s0 : Int32) (r1 : Nat) (hc : cells + 0 ≤ 0) (hs : slots + 0 ≤ 0) {q : AH} (hf : f11_65 A s0 r1 = some q) :
    Go p e below (T.setTop (mkF m 65 #[.val (.ref (n0 + o0)), .val (.int i1)] [(.int s0), (.ref (n0 + r1))])) (Fini own_D Z n0 s own_R11 none q) := by
  unfold f11_65 at hf
  obtain ⟨A1, g1, hf⟩ := bs hf
  refine putf (pc' := 68) (va := (.int (nar .boolean s0))) K sep X (i := 68) rfl d11_65 (t := 10) (f := 5) (by decide) rfl (Or.inl (wd K (i := 69) rfl)) (i2 := 6) rfl (ty := .boolean) (by decide) rfl (fits_nar_bool _) g1 rfl (fun T1 X1 => ?_)
  cases hf
  exact retV K X1 (show cells ≤ 0 by omega) (show slots ≤ 0 by omega) d11_68
def f11_53 (A : AH) (o0 : Nat) (i1 : Int32) : Option (AH) :=
  if i1 = (13 : Int32) then (f11_65 A (1 : Int32) o0)
  else (f11_65 A (0 : Int32) o0)
set_option maxRecDepth 65536 in
set_option maxHeartbeats 4000000 in
theorem w11_53 (K : Cx p l e own_R11 s m meth c Z a0 tables_1 "com/example/runnel/runnel/io/LineCounter" "advance" prog_13_method_19_code 2 none) (sep : ∀ t, Sep Z (own_D t).2) (X : On p l e own_R11 s m args below meth c own_D Z n0 T A cells slots) (o0 : Nat) (i1 : Int32) (hc : cells + 0 ≤ 0) (hs : slots + 0 ≤ 0) {q : AH} (hf : f11_53 A o0 i1 = some q) :
    Go p e below (T.setTop (mkF m 53 #[.val (.ref (n0 + o0)), .val (.int i1)] [])) (Fini own_D Z n0 s own_R11 none q) := by
  unfold f11_53 at hf
  refine i_aloadN (pc' := 54) K X d11_53 rfl rfl rfl ?_
  refine i_iloadN (pc' := 55) K X d11_54 rfl rfl ?_
  refine i_bipush (pc' := 57) (v := (13 : Int32)) K X d11_55 rfl rfl ?_
  by_cases hc57 : i1 = (13 : Int32)
  · rw [if_pos hc57] at hf
    refine i_icmpNo (pc' := 60) K X d11_57 rfl (teq hc57).2 ?_
    refine i_iconst (pc' := 61) (v := (1 : Int32)) K X d11_60 rfl rfl ?_
    refine i_goto (pc' := 65) K X d11_61 (by decide) (by decide) ?_
    exact w11_65 K sep X o0 i1 (1 : Int32) o0 (show cells + 0 ≤ 0 by omega) (show slots + 0 ≤ 0 by omega) hf
  · rw [if_neg hc57] at hf
    refine i_icmpYes (pc' := 64) K X d11_57 (feq hc57).2 (by decide) (by decide) ?_
    refine i_iconst (pc' := 65) (v := (0 : Int32)) K X d11_64 rfl rfl ?_
    exact w11_65 K sep X o0 i1 (0 : Int32) o0 (show cells + 0 ≤ 0 by omega) (show slots + 0 ≤ 0 by omega) hf
def f11_19 (A : AH) (o0 : Nat) (i1 : Int32) : Option (AH) :=
  (asJ (h_fget A 10 o0 3)).bind fun v1 =>
  (h_fset A 10 o0 3 (.long (v1 + (1 : Int64)))).bind fun A2 =>
  (h_fset A2 10 o0 4 (.long (0 : Int64))).bind fun A3 =>
  f11_53 A3 o0 i1
set_option maxRecDepth 65536 in
set_option maxHeartbeats 4000000 in
theorem w11_19 (K : Cx p l e own_R11 s m meth c Z a0 tables_1 "com/example/runnel/runnel/io/LineCounter" "advance" prog_13_method_19_code 2 none) (sep : ∀ t, Sep Z (own_D t).2) (X : On p l e own_R11 s m args below meth c own_D Z n0 T A cells slots) (o0 : Nat) (i1 : Int32) (hc : cells + 0 ≤ 0) (hs : slots + 0 ≤ 0) {q : AH} (hf : f11_19 A o0 i1 = some q) :
    Go p e below (T.setTop (mkF m 19 #[.val (.ref (n0 + o0)), .val (.int i1)] [])) (Fini own_D Z n0 s own_R11 none q) := by
  unfold f11_19 at hf
  refine i_aloadN (pc' := 20) K X d11_19 rfl rfl rfl ?_
  refine i_dup (pc' := 21) K X d11_20 rfl rfl ?_
  obtain ⟨v1, g1, hf⟩ := bs hf
  refine getfJ (pc' := 24) K X (i := 40) rfl d11_21 (t := 10) (f := 3) (by decide) rfl g1 rfl (fun T1 X1 => ?_)
  refine i_lconst (pc' := 25) (v := (1 : Int64)) K X1 d11_24 rfl rfl ?_
  refine i_ladd (pc' := 26) K X1 d11_25 rfl ?_
  obtain ⟨A2, g2, hf⟩ := bs hf
  refine putf (pc' := 29) (va := (.long (v1 + (1 : Int64)))) K sep X1 (i := 40) rfl d11_26 (t := 10) (f := 3) (by decide) rfl (Or.inl (wd K (i := 41) rfl)) (i2 := 6) rfl (ty := .long) (by decide) rfl rfl g2 rfl (fun T2 X2 => ?_)
  refine i_aloadN (pc' := 30) K X2 d11_29 rfl rfl rfl ?_
  refine i_lconst (pc' := 31) (v := (0 : Int64)) K X2 d11_30 rfl rfl ?_
  obtain ⟨A3, g3, hf⟩ := bs hf
  refine putf (pc' := 34) (va := (.long (0 : Int64))) K sep X2 (i := 52) rfl d11_31 (t := 10) (f := 4) (by decide) rfl (Or.inl (wd K (i := 53) rfl)) (i2 := 6) rfl (ty := .long) (by decide) rfl rfl g3 rfl (fun T3 X3 => ?_)
  refine i_goto (pc' := 53) K X3 d11_34 (by decide) (by decide) ?_
  exact w11_53 K sep X3 o0 i1 (show cells + 0 ≤ 0 by omega) (show slots + 0 ≤ 0 by omega) hf
def f11_37 (A : AH) (o0 : Nat) (i1 : Int32) : Option (AH) :=
  if i1 = (10 : Int32) then (f11_53 A o0 i1)
  else ((asJ (h_fget A 10 o0 4)).bind fun v1 =>
  (h_fset A 10 o0 4 (.long (v1 + (1 : Int64)))).bind fun A2 =>
  f11_53 A2 o0 i1)
set_option maxRecDepth 65536 in
set_option maxHeartbeats 4000000 in
theorem w11_37 (K : Cx p l e own_R11 s m meth c Z a0 tables_1 "com/example/runnel/runnel/io/LineCounter" "advance" prog_13_method_19_code 2 none) (sep : ∀ t, Sep Z (own_D t).2) (X : On p l e own_R11 s m args below meth c own_D Z n0 T A cells slots) (o0 : Nat) (i1 : Int32) (hc : cells + 0 ≤ 0) (hs : slots + 0 ≤ 0) {q : AH} (hf : f11_37 A o0 i1 = some q) :
    Go p e below (T.setTop (mkF m 37 #[.val (.ref (n0 + o0)), .val (.int i1)] [])) (Fini own_D Z n0 s own_R11 none q) := by
  unfold f11_37 at hf
  refine i_iloadN (pc' := 38) K X d11_37 rfl rfl ?_
  refine i_bipush (pc' := 40) (v := (10 : Int32)) K X d11_38 rfl rfl ?_
  by_cases hc40 : i1 = (10 : Int32)
  · rw [if_pos hc40] at hf
    refine i_icmpYes (pc' := 53) K X d11_40 (teq hc40).1 (by decide) (by decide) ?_
    exact w11_53 K sep X o0 i1 (show cells + 0 ≤ 0 by omega) (show slots + 0 ≤ 0 by omega) hf
  · rw [if_neg hc40] at hf
    refine i_icmpNo (pc' := 43) K X d11_40 rfl (feq hc40).1 ?_
    refine i_aloadN (pc' := 44) K X d11_43 rfl rfl rfl ?_
    refine i_dup (pc' := 45) K X d11_44 rfl rfl ?_
    obtain ⟨v1, g1, hf⟩ := bs hf
    refine getfJ (pc' := 48) K X (i := 52) rfl d11_45 (t := 10) (f := 4) (by decide) rfl g1 rfl (fun T1 X1 => ?_)
    refine i_lconst (pc' := 49) (v := (1 : Int64)) K X1 d11_48 rfl rfl ?_
    refine i_ladd (pc' := 50) K X1 d11_49 rfl ?_
    obtain ⟨A2, g2, hf⟩ := bs hf
    refine putf (pc' := 53) (va := (.long (v1 + (1 : Int64)))) K sep X1 (i := 52) rfl d11_50 (t := 10) (f := 4) (by decide) rfl (Or.inl (wd K (i := 53) rfl)) (i2 := 6) rfl (ty := .long) (by decide) rfl rfl g2 rfl (fun T2 X2 => ?_)
    exact w11_53 K sep X2 o0 i1 (show cells + 0 ≤ 0 by omega) (show slots + 0 ≤ 0 by omega) hf
def f11_0 (A : AH) (o0 : Nat) (i1 : Int32) : Option (AH) :=
  if i1 = (13 : Int32) then (f11_19 A o0 i1)
  else (if i1 = (10 : Int32) then ((asI (h_fget A 10 o0 5)).bind fun v1 =>
  if v1 = (0 : Int32) then (f11_19 A o0 i1)
  else (f11_37 A o0 i1))
  else (f11_37 A o0 i1))
set_option maxRecDepth 65536 in
set_option maxHeartbeats 4000000 in
theorem w11_0 (K : Cx p l e own_R11 s m meth c Z a0 tables_1 "com/example/runnel/runnel/io/LineCounter" "advance" prog_13_method_19_code 2 none) (sep : ∀ t, Sep Z (own_D t).2) (X : On p l e own_R11 s m args below meth c own_D Z n0 T A cells slots) (o0 : Nat) (i1 : Int32) (hc : cells + 0 ≤ 0) (hs : slots + 0 ≤ 0) {q : AH} (hf : f11_0 A o0 i1 = some q) :
    Go p e below (T.setTop (mkF m 0 #[.val (.ref (n0 + o0)), .val (.int i1)] [])) (Fini own_D Z n0 s own_R11 none q) := by
  unfold f11_0 at hf
  refine i_iloadN (pc' := 1) K X d11_0 rfl rfl ?_
  refine i_bipush (pc' := 3) (v := (13 : Int32)) K X d11_1 rfl rfl ?_
  by_cases hc3 : i1 = (13 : Int32)
  · rw [if_pos hc3] at hf
    refine i_icmpYes (pc' := 19) K X d11_3 (teq hc3).1 (by decide) (by decide) ?_
    exact w11_19 K sep X o0 i1 (show cells + 0 ≤ 0 by omega) (show slots + 0 ≤ 0 by omega) hf
  · rw [if_neg hc3] at hf
    refine i_icmpNo (pc' := 6) K X d11_3 rfl (feq hc3).1 ?_
    refine i_iloadN (pc' := 7) K X d11_6 rfl rfl ?_
    refine i_bipush (pc' := 9) (v := (10 : Int32)) K X d11_7 rfl rfl ?_
    by_cases hc9 : i1 = (10 : Int32)
    · rw [if_pos hc9] at hf
      refine i_icmpNo (pc' := 12) K X d11_9 rfl (teq hc9).2 ?_
      refine i_aloadN (pc' := 13) K X d11_12 rfl rfl rfl ?_
      obtain ⟨v1, g1, hf⟩ := bs hf
      refine getfI (pc' := 16) K X (i := 68) rfl d11_13 (t := 10) (f := 5) (by decide) rfl g1 rfl (fun T1 X1 => ?_)
      by_cases hc16 : v1 = (0 : Int32)
      · rw [if_pos hc16] at hf
        refine i_ifNo (pc' := 19) K X1 d11_16 rfl (teq hc16).2 ?_
        exact w11_19 K sep X1 o0 i1 (show cells + 0 ≤ 0 by omega) (show slots + 0 ≤ 0 by omega) hf
      · rw [if_neg hc16] at hf
        refine i_ifYes (pc' := 37) K X1 d11_16 (feq hc16).2 (by decide) (by decide) ?_
        exact w11_37 K sep X1 o0 i1 (show cells + 0 ≤ 0 by omega) (show slots + 0 ≤ 0 by omega) hf
    · rw [if_neg hc9] at hf
      refine i_icmpYes (pc' := 37) K X d11_9 (feq hc9).2 (by decide) (by decide) ?_
      exact w11_37 K sep X o0 i1 (show cells + 0 ≤ 0 by omega) (show slots + 0 ≤ 0 by omega) hf
theorem pn_11 : plainName "com/example/runnel/runnel/io/LineCounter" = true := by first | (simp [plainName, overriddenIn]; done) | decide +kernel
theorem rm11 {l : Launch} {Z : State} {a0 : Array Value} {n0 : Nat} (hw : ∀ d ∈ tables_1, d.before a0 Z = true) (A : AH) (o0 : Nat) (i1 : Int32) {q : AH} (hf : f11_0 A o0 i1 = some q) :
    Met l own_D Z n0 (⟨"com/example/runnel/runnel/io/LineCounter", "advance", "(C)V"⟩ : MethodName) prog_13_method_19_code 2 none own_R11 [(.ref (n0 + o0)), (.int i1)] A none q :=
  met (W := tables_1) (a0 := a0) (own := "com/example/runnel/runnel/io/LineCounter") (nm := "advance") (L0 := #[.val (.ref (n0 + o0)), .val (.int i1)]) (plainFor_of_name pn_11) hw rfl rfl (fun m => by first | (simp [entryFrame, mkF, argsToLocals, Value.category]; done) | rfl) (fun p e s m below meth c T K X => w11_0 K (own_sep hw) X o0 i1 (show 0 + 0 ≤ 0 by decide) (show 0 + 0 ≤ 0 by decide) hf)
/-! body 4: LineCounter.count([CIII)V -/
theorem d4_0 : decode prog_13_method_7_code 0 = .ok (.iload_n 2, 1) := by decide +kernel
theorem d4_1 : decode prog_13_method_7_code 1 = .ok (.iload_n 3, 1) := by decide +kernel
theorem d4_2 : decode prog_13_method_7_code 2 = .ok (.iadd, 1) := by decide +kernel
theorem d4_3 : decode prog_13_method_7_code 3 = .ok (.istore 5, 2) := by decide +kernel
theorem d4_5 : decode prog_13_method_7_code 5 = .ok (.iload_n 2, 1) := by decide +kernel
theorem d4_6 : decode prog_13_method_7_code 6 = .ok (.iload 5, 2) := by decide +kernel
theorem d4_8 : decode prog_13_method_7_code 8 = .ok (.aload_n 0, 1) := by decide +kernel
theorem d4_9 : decode prog_13_method_7_code 9 = .ok (.getfield 19, 3) := by decide +kernel
theorem d4_12 : decode prog_13_method_7_code 12 = .ok (.arraylength, 1) := by decide +kernel
theorem d4_13 : decode prog_13_method_7_code 13 = .ok (.isub, 1) := by decide +kernel
theorem d4_14 : decode prog_13_method_7_code 14 = .ok (.invokestatic 39, 3) := by decide +kernel
theorem d4_17 : decode prog_13_method_7_code 17 = .ok (.istore 6, 2) := by decide +kernel
theorem d4_19 : decode prog_13_method_7_code 19 = .ok (.iload 4, 2) := by decide +kernel
theorem d4_21 : decode prog_13_method_7_code 21 = .ok (.ifCond .ge 14, 3) := by decide +kernel
theorem d4_24 : decode prog_13_method_7_code 24 = .ok (.aload_n 0, 1) := by decide +kernel
theorem d4_25 : decode prog_13_method_7_code 25 = .ok (.aload_n 1, 1) := by decide +kernel
theorem d4_26 : decode prog_13_method_7_code 26 = .ok (.iload_n 2, 1) := by decide +kernel
theorem d4_27 : decode prog_13_method_7_code 27 = .ok (.iload 6, 2) := by decide +kernel
theorem d4_29 : decode prog_13_method_7_code 29 = .ok (.invokevirtual 45, 3) := by decide +kernel
theorem d4_32 : decode prog_13_method_7_code 32 = .ok (.goto 22, 3) := by decide +kernel
theorem d4_35 : decode prog_13_method_7_code 35 = .ok (.aload_n 0, 1) := by decide +kernel
theorem d4_36 : decode prog_13_method_7_code 36 = .ok (.aload_n 1, 1) := by decide +kernel
theorem d4_37 : decode prog_13_method_7_code 37 = .ok (.iload_n 2, 1) := by decide +kernel
theorem d4_38 : decode prog_13_method_7_code 38 = .ok (.iload 6, 2) := by decide +kernel
theorem d4_40 : decode prog_13_method_7_code 40 = .ok (.iload 4, 2) := by decide +kernel
theorem d4_42 : decode prog_13_method_7_code 42 = .ok (.aload_n 1, 1) := by decide +kernel
theorem d4_43 : decode prog_13_method_7_code 43 = .ok (.iload 6, 2) := by decide +kernel
theorem d4_45 : decode prog_13_method_7_code 45 = .ok (.iload 5, 2) := by decide +kernel
theorem d4_54 : decode prog_13_method_7_code 54 = .ok (.iload 6, 2) := by decide +kernel
theorem d4_56 : decode prog_13_method_7_code 56 = .ok (.istore 7, 2) := by decide +kernel
theorem d4_58 : decode prog_13_method_7_code 58 = .ok (.iload 7, 2) := by decide +kernel
theorem d4_60 : decode prog_13_method_7_code 60 = .ok (.iload 5, 2) := by decide +kernel
theorem d4_62 : decode prog_13_method_7_code 62 = .ok (.if_icmp .ge 21, 3) := by decide +kernel
theorem d4_65 : decode prog_13_method_7_code 65 = .ok (.aload_n 0, 1) := by decide +kernel
theorem d4_66 : decode prog_13_method_7_code 66 = .ok (.invokevirtual 28, 3) := by decide +kernel
theorem d4_69 : decode prog_13_method_7_code 69 = .ok (.aload_n 0, 1) := by decide +kernel
theorem d4_70 : decode prog_13_method_7_code 70 = .ok (.aload_n 1, 1) := by decide +kernel
theorem d4_71 : decode prog_13_method_7_code 71 = .ok (.iload 7, 2) := by decide +kernel
theorem d4_73 : decode prog_13_method_7_code 73 = .ok (.caload, 1) := by decide +kernel
theorem d4_74 : decode prog_13_method_7_code 74 = .ok (.invokevirtual 31, 3) := by decide +kernel
theorem d4_77 : decode prog_13_method_7_code 77 = .ok (.iinc 7 1, 3) := by decide +kernel
theorem d4_80 : decode prog_13_method_7_code 80 = .ok (.goto (-22), 3) := by decide +kernel
theorem d4_83 : decode prog_13_method_7_code 83 = .ok (.return_, 1) := by decide +kernel
theorem pd_4 : parseMethodDescriptor "([CIII)V" = some ⟨[(.array .char), .int, .int, .int], none⟩ := by decide +kernel
abbrev own_R4 : Room := { frames := 2, cells := 0, slots := 0, locals := 33 }
def f4_37 (A : AH) (o1 : Nat) (i2 : Int32) (i4 : Int32) (i5 : Int32) (i6 : Int32) (r0 : Nat) (r1 : Nat) : Option (AH) :=
  none
set_option maxRecDepth 65536 in
set_option maxHeartbeats 4000000 in
theorem w4_37 (K : Cx p l e own_R4 s m meth c Z a0 tables_1 "com/example/runnel/runnel/io/LineCounter" "count" prog_13_method_7_code 8 none) (sep : ∀ t, Sep Z (own_D t).2) (X : On p l e own_R4 s m args below meth c own_D Z n0 T A cells slots) (o0 : Nat) (o1 : Nat) (i2 : Int32) (i3 : Int32) (i4 : Int32) (i5 : Int32) (i6 : Int32) (r0 : Nat) (r1 : Nat) (hc : cells + 0 ≤ 0) (hs : slots + 0 ≤ 0) {q : AH} (hf : f4_37 A o1 i2 i4 i5 i6 r0 r1 = some q) :
    Go p e below (T.setTop (mkF m 37 #[.val (.ref (n0 + o0)), .val (.ref (n0 + o1)), .val (.int i2), .val (.int i3), .val (.int i4), .val (.int i5), .val (.int i6), .unset] [(.ref (n0 + r0)), (.ref (n0 + r1))])) (Fini own_D Z n0 s own_R4 none q) := by
  unfold f4_37 at hf
  refine i_iloadN (pc' := 38) K X d4_37 rfl rfl ?_
  refine i_iload (pc' := 40) K X d4_38 rfl rfl ?_
  refine i_iload (pc' := 42) K X d4_40 rfl rfl ?_
  refine i_aloadN (pc' := 43) K X d4_42 rfl rfl rfl ?_
  refine i_iload (pc' := 45) K X d4_43 rfl rfl ?_
  refine i_iload (pc' := 47) K X d4_45 rfl rfl ?_
  cases hf
def g4_58 (rec58 : AH → Nat → Nat → Int32 → Int32 → Option (AH)) (A : AH) (o0 : Nat) (o1 : Nat) (i5 : Int32) (i7 : Int32) : Option (AH) :=
  if i7 < i5 then ((h_isA A 10 o0).bind fun y2 =>
  (f13_0 A o0).bind fun A1 =>
  (asI (h_aget A1 1 o1 i7)).bind fun v3 =>
  (h_isA A1 10 o0).bind fun y5 =>
  (f11_0 A1 o0 v3).bind fun A4 =>
  rec58 A4 o0 o1 i5 (i7 + (1 : Int32)))
  else (some A)
set_option maxRecDepth 65536 in
set_option maxHeartbeats 4000000 in
theorem v4_58 (K : Cx p l e own_R4 s m meth c Z a0 tables_1 "com/example/runnel/runnel/io/LineCounter" "count" prog_13_method_7_code 8 none) (sep : ∀ t, Sep Z (own_D t).2) {rec58 : AH → Nat → Nat → Int32 → Int32 → Option (AH)} (H58 : ∀ (T : State) (A : AH) (cells slots : Nat), On p l e own_R4 s m args below meth c own_D Z n0 T A cells slots → ∀ (o0 : Nat) (o1 : Nat) (i2 : Int32) (i3 : Int32) (i4 : Int32) (i5 : Int32) (i6 : Int32) (i7 : Int32) (_u : Unit), cells + 0 ≤ 0 → slots + 0 ≤ 0 → ∀ q, rec58 A o0 o1 i5 i7 = some q → Go p e below (T.setTop (mkF m 58 #[.val (.ref (n0 + o0)), .val (.ref (n0 + o1)), .val (.int i2), .val (.int i3), .val (.int i4), .val (.int i5), .val (.int i6), .val (.int i7)] [])) (Fini own_D Z n0 s own_R4 none q)) (X : On p l e own_R4 s m args below meth c own_D Z n0 T A cells slots) (o0 : Nat) (o1 : Nat) (i2 : Int32) (i3 : Int32) (i4 : Int32) (i5 : Int32) (i6 : Int32) (i7 : Int32) (hc : cells + 0 ≤ 0) (hs : slots + 0 ≤ 0) {q : AH} (hf : g4_58 rec58 A o0 o1 i5 i7 = some q) :
    Go p e below (T.setTop (mkF m 58 #[.val (.ref (n0 + o0)), .val (.ref (n0 + o1)), .val (.int i2), .val (.int i3), .val (.int i4), .val (.int i5), .val (.int i6), .val (.int i7)] [])) (Fini own_D Z n0 s own_R4 none q) := by
  unfold g4_58 at hf
  refine i_iload (pc' := 60) K X d4_58 rfl rfl ?_
  refine i_iload (pc' := 62) K X d4_60 rfl rfl ?_
  by_cases hc62 : i7 < i5
  · rw [if_pos hc62] at hf
    refine i_icmpNo (pc' := 65) K X d4_62 rfl (tlt hc62).2.1 ?_
    refine i_aloadN (pc' := 66) K X d4_65 rfl rfl rfl ?_
    obtain ⟨y2, g2, hf⟩ := bs hf
    obtain ⟨A1, g1, hf⟩ := bs hf
    refine callp (pc' := 69) (kc := cells) (ks := slots) (S' := []) (st := []) K X (i1 := 73) rfl (i2 := 75) rfl (i5 := 6) (t := 10) rfl (i6 := 74) rfl (i3 := 7) rfl (i4 := 76) rfl (by decide) (by decide) g2 (rm13 (l := l) (n0 := n0) (K.2.2.2.2.2.2.2.2) A o0 g1) pd_13 rfl d4_66 rfl rfl (by decide) (w := 0) (Nat.le_of_eq rfl) (by decide) (show cells + 0 ≤ 0 by omega) (show slots + 0 ≤ 0 by omega) rfl rfl rfl rfl (fun T1 X1 => ?_)
    refine i_aloadN (pc' := 70) K X1 d4_69 rfl rfl rfl ?_
    refine i_aloadN (pc' := 71) K X1 d4_70 rfl rfl rfl ?_
    refine i_iload (pc' := 73) K X1 d4_71 rfl rfl ?_
    obtain ⟨v3, g3, hf⟩ := bs hf
    refine ld1 (pc' := 74) K X1 g3 d4_73 rfl ?_
    obtain ⟨y5, g5, hf⟩ := bs hf
    obtain ⟨A4, g4, hf⟩ := bs hf
    refine callp (pc' := 77) (kc := cells) (ks := slots) (S' := []) (st := []) K X1 (i1 := 64) rfl (i2 := 66) rfl (i5 := 6) (t := 10) rfl (i6 := 65) rfl (i3 := 7) rfl (i4 := 67) rfl (by decide) (by decide) g5 (rm11 (l := l) (n0 := n0) (K.2.2.2.2.2.2.2.2) A1 o0 v3 g4) pd_11 rfl d4_74 rfl rfl (by decide) (w := 0) (Nat.le_of_eq rfl) (by decide) (show cells + 0 ≤ 0 by omega) (show slots + 0 ≤ 0 by omega) rfl rfl rfl rfl (fun T4 X4 => ?_)
    refine i_iinc (pc' := 80) (y := (1 : Int32)) (Ls' := #[.val (.ref (n0 + o0)), .val (.ref (n0 + o1)), .val (.int i2), .val (.int i3), .val (.int i4), .val (.int i5), .val (.int i6), .val (.int (i7 + (1 : Int32)))]) K X4 d4_77 rfl rfl rfl rfl ?_
    refine i_goto (pc' := 58) K X4 d4_80 (by decide) (by decide) ?_
    exact H58 _ _ _ _ X4 o0 o1 i2 i3 i4 i5 i6 (i7 + (1 : Int32)) () (show cells + 0 ≤ 0 by omega) (show slots + 0 ≤ 0 by omega) _ hf
  · rw [if_neg hc62] at hf
    refine i_icmpYes (pc' := 83) K X d4_62 (flt hc62).2.1 (by decide) (by decide) ?_
    cases hf
    exact retV K X (show cells ≤ 0 by omega) (show slots ≤ 0 by omega) d4_83
def f4_58 : Nat → AH → Nat → Nat → Int32 → Int32 → Option (AH)
  | 0 => fun _ _ _ _ _ => none
  | k + 1 => g4_58 (f4_58 k)
theorem w4_58 (K : Cx p l e own_R4 s m meth c Z a0 tables_1 "com/example/runnel/runnel/io/LineCounter" "count" prog_13_method_7_code 8 none) (sep : ∀ t, Sep Z (own_D t).2) : ∀ (k : Nat) (T : State) (A : AH) (cells slots : Nat), On p l e own_R4 s m args below meth c own_D Z n0 T A cells slots → ∀ (o0 : Nat) (o1 : Nat) (i2 : Int32) (i3 : Int32) (i4 : Int32) (i5 : Int32) (i6 : Int32) (i7 : Int32) (_u : Unit), cells + 0 ≤ 0 → slots + 0 ≤ 0 → ∀ q, f4_58 k A o0 o1 i5 i7 = some q → Go p e below (T.setTop (mkF m 58 #[.val (.ref (n0 + o0)), .val (.ref (n0 + o1)), .val (.int i2), .val (.int i3), .val (.int i4), .val (.int i5), .val (.int i6), .val (.int i7)] [])) (Fini own_D Z n0 s own_R4 none q) := by
  intro k
  induction k with
  | zero => intro T A cells slots X o0 o1 i2 i3 i4 i5 i6 i7 _ hc hs q hf; exact nomatch hf
  | succ k ih => intro T A cells slots X o0 o1 i2 i3 i4 i5 i6 i7 _ hc hs q hf; exact v4_58 K sep ih X o0 o1 i2 i3 i4 i5 i6 i7 hc hs hf
def f4_26 (A : AH) (o0 : Nat) (o1 : Nat) (i2 : Int32) (i5 : Int32) (i6 : Int32) (r0 : Nat) (r1 : Nat) : Option (AH) :=
  (h_isA A 10 r1).bind fun y2 =>
  (f6_0 A r1 r0 i2 i6).bind fun A1 =>
  f4_58 8 A1 o0 o1 i5 i6
set_option maxRecDepth 65536 in
set_option maxHeartbeats 4000000 in
theorem w4_26 (K : Cx p l e own_R4 s m meth c Z a0 tables_1 "com/example/runnel/runnel/io/LineCounter" "count" prog_13_method_7_code 8 none) (sep : ∀ t, Sep Z (own_D t).2) (X : On p l e own_R4 s m args below meth c own_D Z n0 T A cells slots) (o0 : Nat) (o1 : Nat) (i2 : Int32) (i3 : Int32) (i4 : Int32) (i5 : Int32) (i6 : Int32) (r0 : Nat) (r1 : Nat) (hc : cells + 0 ≤ 0) (hs : slots + 0 ≤ 0) {q : AH} (hf : f4_26 A o0 o1 i2 i5 i6 r0 r1 = some q) :
    Go p e below (T.setTop (mkF m 26 #[.val (.ref (n0 + o0)), .val (.ref (n0 + o1)), .val (.int i2), .val (.int i3), .val (.int i4), .val (.int i5), .val (.int i6), .unset] [(.ref (n0 + r0)), (.ref (n0 + r1))])) (Fini own_D Z n0 s own_R4 none q) := by
  unfold f4_26 at hf
  refine i_iloadN (pc' := 27) K X d4_26 rfl rfl ?_
  refine i_iload (pc' := 29) K X d4_27 rfl rfl ?_
  obtain ⟨y2, g2, hf⟩ := bs hf
  obtain ⟨A1, g1, hf⟩ := bs hf
  refine callp (pc' := 32) (kc := cells) (ks := slots) (S' := []) (st := []) K X (i1 := 36) rfl (i2 := 38) rfl (i5 := 6) (t := 10) rfl (i6 := 37) rfl (i3 := 7) rfl (i4 := 39) rfl (by decide) (by decide) g2 (rm6 (l := l) (n0 := n0) (K.2.2.2.2.2.2.2.2) A r1 r0 i2 i6 g1) pd_6 rfl d4_29 rfl rfl (by decide) (w := 0) (Nat.le_of_eq rfl) (by decide) (show cells + 0 ≤ 0 by omega) (show slots + 0 ≤ 0 by omega) rfl rfl rfl rfl (fun T1 X1 => ?_)
  refine i_goto (pc' := 54) K X1 d4_32 (by decide) (by decide) ?_
  refine i_iload (pc' := 56) K X1 d4_54 rfl rfl ?_
  refine i_istore (pc' := 58) (Ls' := #[.val (.ref (n0 + o0)), .val (.ref (n0 + o1)), .val (.int i2), .val (.int i3), .val (.int i4), .val (.int i5), .val (.int i6), .val (.int i6)]) K X1 d4_56 rfl rfl ?_
  exact w4_58 K sep 8 _ _ _ _ X1 o0 o1 i2 i3 i4 i5 i6 i6 () (show cells + 0 ≤ 0 by omega) (show slots + 0 ≤ 0 by omega) _ hf
def f4_0 (A : AH) (o0 : Nat) (o1 : Nat) (i2 : Int32) (i3 : Int32) (i4 : Int32) : Option (AH) :=
  (asR (h_fget A 10 o0 2)).bind fun v1 =>
  (h_alen A 3 v1).bind fun v2 =>
  if i4 < (0 : Int32) then (f4_26 A o0 o1 i2 (i2 + i3) (f5_0 i2 ((i2 + i3) - v2)) o1 o0)
  else (f4_37 A o1 i2 i4 (i2 + i3) (f5_0 i2 ((i2 + i3) - v2)) o1 o0)
set_option maxRecDepth 65536 in
set_option maxHeartbeats 4000000 in
theorem w4_0 (K : Cx p l e own_R4 s m meth c Z a0 tables_1 "com/example/runnel/runnel/io/LineCounter" "count" prog_13_method_7_code 8 none) (sep : ∀ t, Sep Z (own_D t).2) (X : On p l e own_R4 s m args below meth c own_D Z n0 T A cells slots) (o0 : Nat) (o1 : Nat) (i2 : Int32) (i3 : Int32) (i4 : Int32) (hc : cells + 0 ≤ 0) (hs : slots + 0 ≤ 0) {q : AH} (hf : f4_0 A o0 o1 i2 i3 i4 = some q) :
    Go p e below (T.setTop (mkF m 0 #[.val (.ref (n0 + o0)), .val (.ref (n0 + o1)), .val (.int i2), .val (.int i3), .val (.int i4), .unset, .unset, .unset] [])) (Fini own_D Z n0 s own_R4 none q) := by
  unfold f4_0 at hf
  refine i_iloadN (pc' := 1) K X d4_0 rfl rfl ?_
  refine i_iloadN (pc' := 2) K X d4_1 rfl rfl ?_
  refine i_iadd (pc' := 3) K X d4_2 rfl ?_
  refine i_istore (pc' := 5) (Ls' := #[.val (.ref (n0 + o0)), .val (.ref (n0 + o1)), .val (.int i2), .val (.int i3), .val (.int i4), .val (.int (i2 + i3)), .unset, .unset]) K X d4_3 rfl rfl ?_
  refine i_iloadN (pc' := 6) K X d4_5 rfl rfl ?_
  refine i_iload (pc' := 8) K X d4_6 rfl rfl ?_
  refine i_aloadN (pc' := 9) K X d4_8 rfl rfl rfl ?_
  obtain ⟨v1, g1, hf⟩ := bs hf
  refine getfR (pc' := 12) K X (i := 20) rfl d4_9 (t := 10) (f := 2) (by decide) rfl g1 rfl (fun T1 X1 => ?_)
  obtain ⟨v2, g2, hf⟩ := bs hf
  refine h_alen' (pc' := 13) K X1 (t := 3) (by decide) g2 d4_12 rfl ?_
  refine i_isub (pc' := 14) K X1 d4_13 rfl ?_
  refine calls (pc' := 17) (kc := cells) (ks := slots) (S' := [(.int (f5_0 i2 ((i2 + i3) - v2)))]) (st := []) K X1 (i1 := 32) rfl (i2 := 33) rfl (i3 := 34) rfl (i4 := 35) rfl (by decide) (rm5 (l := l) (n0 := n0) (K.2.2.2.2.2.2.2.2) A i2 ((i2 + i3) - v2)) pd_5 rfl d4_14 rfl rfl (by decide) (w := 0) (Nat.le_of_eq rfl) (by decide) (show cells + 0 ≤ 0 by omega) (show slots + 0 ≤ 0 by omega) rfl rfl rfl rfl (fun T3 X3 => ?_)
  refine i_istore (pc' := 19) (Ls' := #[.val (.ref (n0 + o0)), .val (.ref (n0 + o1)), .val (.int i2), .val (.int i3), .val (.int i4), .val (.int (i2 + i3)), .val (.int (f5_0 i2 ((i2 + i3) - v2))), .unset]) K X3 d4_17 rfl rfl ?_
  refine i_iload (pc' := 21) K X3 d4_19 rfl rfl ?_
  by_cases hc21 : i4 < (0 : Int32)
  · rw [if_pos hc21] at hf
    refine i_ifNo (pc' := 24) K X3 d4_21 rfl (tlt hc21).2.1 ?_
    refine i_aloadN (pc' := 25) K X3 d4_24 rfl rfl rfl ?_
    refine i_aloadN (pc' := 26) K X3 d4_25 rfl rfl rfl ?_
    exact w4_26 K sep X3 o0 o1 i2 i3 i4 (i2 + i3) (f5_0 i2 ((i2 + i3) - v2)) o1 o0 (show cells + 0 ≤ 0 by omega) (show slots + 0 ≤ 0 by omega) hf
  · rw [if_neg hc21] at hf
    refine i_ifYes (pc' := 35) K X3 d4_21 (flt hc21).2.1 (by decide) (by decide) ?_
    refine i_aloadN (pc' := 36) K X3 d4_35 rfl rfl rfl ?_
    refine i_aloadN (pc' := 37) K X3 d4_36 rfl rfl rfl ?_
    exact w4_37 K sep X3 o0 o1 i2 i3 i4 (i2 + i3) (f5_0 i2 ((i2 + i3) - v2)) o1 o0 (show cells + 0 ≤ 0 by omega) (show slots + 0 ≤ 0 by omega) hf
theorem pn_4 : plainName "com/example/runnel/runnel/io/LineCounter" = true := by first | (simp [plainName, overriddenIn]; done) | decide +kernel
theorem rm4 {l : Launch} {Z : State} {a0 : Array Value} {n0 : Nat} (hw : ∀ d ∈ tables_1, d.before a0 Z = true) (A : AH) (o0 : Nat) (o1 : Nat) (i2 : Int32) (i3 : Int32) (i4 : Int32) {q : AH} (hf : f4_0 A o0 o1 i2 i3 i4 = some q) :
    Met l own_D Z n0 (⟨"com/example/runnel/runnel/io/LineCounter", "count", "([CIII)V"⟩ : MethodName) prog_13_method_7_code 8 none own_R4 [(.ref (n0 + o0)), (.ref (n0 + o1)), (.int i2), (.int i3), (.int i4)] A none q :=
  met (W := tables_1) (a0 := a0) (own := "com/example/runnel/runnel/io/LineCounter") (nm := "count") (L0 := #[.val (.ref (n0 + o0)), .val (.ref (n0 + o1)), .val (.int i2), .val (.int i3), .val (.int i4), .unset, .unset, .unset]) (plainFor_of_name pn_4) hw rfl rfl (fun m => by first | (simp [entryFrame, mkF, argsToLocals, Value.category]; done) | rfl) (fun p e s m below meth c T K X => w4_0 K (own_sep hw) X o0 o1 i2 i3 i4 (show 0 + 0 ≤ 0 by decide) (show 0 + 0 ≤ 0 by decide) hf)
/-! body 3: LineCounter.count([CII)V -/
theorem d3_0 : decode prog_13_method_6_code 0 = .ok (.aload_n 0, 1) := by decide +kernel
theorem d3_1 : decode prog_13_method_6_code 1 = .ok (.aload_n 1, 1) := by decide +kernel
theorem d3_2 : decode prog_13_method_6_code 2 = .ok (.iload_n 2, 1) := by decide +kernel
theorem d3_3 : decode prog_13_method_6_code 3 = .ok (.iload_n 3, 1) := by decide +kernel
theorem d3_4 : decode prog_13_method_6_code 4 = .ok (.iconst (-1), 1) := by decide +kernel
theorem d3_5 : decode prog_13_method_6_code 5 = .ok (.invokevirtual 35, 3) := by decide +kernel
theorem d3_8 : decode prog_13_method_6_code 8 = .ok (.return_, 1) := by decide +kernel
theorem pd_3 : parseMethodDescriptor "([CII)V" = some ⟨[(.array .char), .int, .int], none⟩ := by decide +kernel
abbrev own_R3 : Room := { frames := 3, cells := 0, slots := 0, locals := 52 }
def f3_0 (A : AH) (o0 : Nat) (o1 : Nat) (i2 : Int32) (i3 : Int32) : Option (AH) :=
  (h_isA A 10 o0).bind fun y2 =>
  (f4_0 A o0 o1 i2 i3 (-1 : Int32)).bind fun A1 =>
  some A1
set_option maxRecDepth 65536 in
set_option maxHeartbeats 4000000 in
theorem w3_0 (K : Cx p l e own_R3 s m meth c Z a0 tables_1 "com/example/runnel/runnel/io/LineCounter" "count" prog_13_method_6_code 4 none) (sep : ∀ t, Sep Z (own_D t).2) (X : On p l e own_R3 s m args below meth c own_D Z n0 T A cells slots) (o0 : Nat) (o1 : Nat) (i2 : Int32) (i3 : Int32) (hc : cells + 0 ≤ 0) (hs : slots + 0 ≤ 0) {q : AH} (hf : f3_0 A o0 o1 i2 i3 = some q) :
    Go p e below (T.setTop (mkF m 0 #[.val (.ref (n0 + o0)), .val (.ref (n0 + o1)), .val (.int i2), .val (.int i3)] [])) (Fini own_D Z n0 s own_R3 none q) := by
  unfold f3_0 at hf
  refine i_aloadN (pc' := 1) K X d3_0 rfl rfl rfl ?_
  refine i_aloadN (pc' := 2) K X d3_1 rfl rfl rfl ?_
  refine i_iloadN (pc' := 3) K X d3_2 rfl rfl ?_
  refine i_iloadN (pc' := 4) K X d3_3 rfl rfl ?_
  refine i_iconst (pc' := 5) (v := (-1 : Int32)) K X d3_4 rfl rfl ?_
  obtain ⟨y2, g2, hf⟩ := bs hf
  obtain ⟨A1, g1, hf⟩ := bs hf
  refine callv (pc' := 8) (kc := cells) (ks := slots) (S' := []) (st := []) K X (i1 := 27) rfl (i2 := 28) rfl (i5 := 30) (t := 10) rfl (i6 := 29) rfl (i3 := 7) rfl (i4 := 31) rfl (by decide) (by decide) g2 (rm4 (l := l) (n0 := n0) (K.2.2.2.2.2.2.2.2) A o0 o1 i2 i3 (-1 : Int32) g1) pd_4 rfl d3_5 rfl rfl (by decide) (w := 0) (Nat.le_of_eq rfl) (by decide) (show cells + 0 ≤ 0 by omega) (show slots + 0 ≤ 0 by omega) rfl rfl rfl rfl (fun T1 X1 => ?_)
  cases hf
  exact retV K X1 (show cells ≤ 0 by omega) (show slots ≤ 0 by omega) d3_8
theorem pn_3 : plainName "com/example/runnel/runnel/io/LineCounter" = true := by first | (simp [plainName, overriddenIn]; done) | decide +kernel
theorem rm3 {l : Launch} {Z : State} {a0 : Array Value} {n0 : Nat} (hw : ∀ d ∈ tables_1, d.before a0 Z = true) (A : AH) (o0 : Nat) (o1 : Nat) (i2 : Int32) (i3 : Int32) {q : AH} (hf : f3_0 A o0 o1 i2 i3 = some q) :
    Met l own_D Z n0 (⟨"com/example/runnel/runnel/io/LineCounter", "count", "([CII)V"⟩ : MethodName) prog_13_method_6_code 4 none own_R3 [(.ref (n0 + o0)), (.ref (n0 + o1)), (.int i2), (.int i3)] A none q :=
  met (W := tables_1) (a0 := a0) (own := "com/example/runnel/runnel/io/LineCounter") (nm := "count") (L0 := #[.val (.ref (n0 + o0)), .val (.ref (n0 + o1)), .val (.int i2), .val (.int i3)]) (plainFor_of_name pn_3) hw rfl rfl (fun m => by first | (simp [entryFrame, mkF, argsToLocals, Value.category]; done) | rfl) (fun p e s m below meth c T K X => w3_0 K (own_sep hw) X o0 o1 i2 i3 (show 0 + 0 ≤ 0 by decide) (show 0 + 0 ≤ 0 by decide) hf)
/-! body 7: LineCounter.lineNumber()J -/
theorem d7_0 : decode prog_13_method_3_code 0 = .ok (.aload_n 0, 1) := by decide +kernel
theorem d7_1 : decode prog_13_method_3_code 1 = .ok (.getfield 22, 3) := by decide +kernel
theorem d7_4 : decode prog_13_method_3_code 4 = .ok (.lreturn, 1) := by decide +kernel
theorem pd_7 : parseMethodDescriptor "()J" = some ⟨[], some .long⟩ := by decide +kernel
abbrev own_R7 : Room := { frames := 0, cells := 0, slots := 0, locals := 0 }
def f7_0 (A : AH) (o0 : Nat) : Option (Int64 × AH) :=
  (asJ (h_fget A 10 o0 3)).bind fun v1 =>
  some (v1, A)
set_option maxRecDepth 65536 in
set_option maxHeartbeats 4000000 in
theorem w7_0 (K : Cx p l e own_R7 s m meth c Z a0 tables_1 "com/example/runnel/runnel/io/LineCounter" "lineNumber" prog_13_method_3_code 1 (some .long)) (sep : ∀ t, Sep Z (own_D t).2) (X : On p l e own_R7 s m args below meth c own_D Z n0 T A cells slots) (o0 : Nat) (hc : cells + 0 ≤ 0) (hs : slots + 0 ≤ 0) {q : Int64 × AH} (hf : f7_0 A o0 = some q) :
    Go p e below (T.setTop (mkF m 0 #[.val (.ref (n0 + o0))] [])) (Fini own_D Z n0 s own_R7 (some (.long q.1)) q.2) := by
  unfold f7_0 at hf
  refine i_aloadN (pc' := 1) K X d7_0 rfl rfl rfl ?_
  obtain ⟨v1, g1, hf⟩ := bs hf
  refine getfJ (pc' := 4) K X (i := 40) rfl d7_1 (t := 10) (f := 3) (by decide) rfl g1 rfl (fun T1 X1 => ?_)
  cases hf
  exact retJ K X1 (show cells ≤ 0 by omega) (show slots ≤ 0 by omega) d7_4
theorem pn_7 : plainName "com/example/runnel/runnel/io/LineCounter" = true := by first | (simp [plainName, overriddenIn]; done) | decide +kernel
theorem rm7 {l : Launch} {Z : State} {a0 : Array Value} {n0 : Nat} (hw : ∀ d ∈ tables_1, d.before a0 Z = true) (A : AH) (o0 : Nat) {q : Int64 × AH} (hf : f7_0 A o0 = some q) :
    Met l own_D Z n0 (⟨"com/example/runnel/runnel/io/LineCounter", "lineNumber", "()J"⟩ : MethodName) prog_13_method_3_code 1 (some .long) own_R7 [(.ref (n0 + o0))] A (some (.long q.1)) q.2 :=
  met (W := tables_1) (a0 := a0) (own := "com/example/runnel/runnel/io/LineCounter") (nm := "lineNumber") (L0 := #[.val (.ref (n0 + o0))]) (plainFor_of_name pn_7) hw rfl rfl (fun m => by first | (simp [entryFrame, mkF, argsToLocals, Value.category]; done) | rfl) (fun p e s m below meth c T K X => w7_0 K (own_sep hw) X o0 (show 0 + 0 ≤ 0 by decide) (show 0 + 0 ≤ 0 by decide) hf)
/-! body 8: LineCounter.column()J -/
theorem d8_0 : decode prog_13_method_4_code 0 = .ok (.aload_n 0, 1) := by decide +kernel
theorem d8_1 : decode prog_13_method_4_code 1 = .ok (.getfield 25, 3) := by decide +kernel
theorem d8_4 : decode prog_13_method_4_code 4 = .ok (.lreturn, 1) := by decide +kernel
theorem pd_8 : parseMethodDescriptor "()J" = some ⟨[], some .long⟩ := by decide +kernel
abbrev own_R8 : Room := { frames := 0, cells := 0, slots := 0, locals := 0 }
def f8_0 (A : AH) (o0 : Nat) : Option (Int64 × AH) :=
  (asJ (h_fget A 10 o0 4)).bind fun v1 =>
  some (v1, A)
set_option maxRecDepth 65536 in
set_option maxHeartbeats 4000000 in
theorem w8_0 (K : Cx p l e own_R8 s m meth c Z a0 tables_1 "com/example/runnel/runnel/io/LineCounter" "column" prog_13_method_4_code 1 (some .long)) (sep : ∀ t, Sep Z (own_D t).2) (X : On p l e own_R8 s m args below meth c own_D Z n0 T A cells slots) (o0 : Nat) (hc : cells + 0 ≤ 0) (hs : slots + 0 ≤ 0) {q : Int64 × AH} (hf : f8_0 A o0 = some q) :
    Go p e below (T.setTop (mkF m 0 #[.val (.ref (n0 + o0))] [])) (Fini own_D Z n0 s own_R8 (some (.long q.1)) q.2) := by
  unfold f8_0 at hf
  refine i_aloadN (pc' := 1) K X d8_0 rfl rfl rfl ?_
  obtain ⟨v1, g1, hf⟩ := bs hf
  refine getfJ (pc' := 4) K X (i := 52) rfl d8_1 (t := 10) (f := 4) (by decide) rfl g1 rfl (fun T1 X1 => ?_)
  cases hf
  exact retJ K X1 (show cells ≤ 0 by omega) (show slots ≤ 0 by omega) d8_4
theorem pn_8 : plainName "com/example/runnel/runnel/io/LineCounter" = true := by first | (simp [plainName, overriddenIn]; done) | decide +kernel
theorem rm8 {l : Launch} {Z : State} {a0 : Array Value} {n0 : Nat} (hw : ∀ d ∈ tables_1, d.before a0 Z = true) (A : AH) (o0 : Nat) {q : Int64 × AH} (hf : f8_0 A o0 = some q) :
    Met l own_D Z n0 (⟨"com/example/runnel/runnel/io/LineCounter", "column", "()J"⟩ : MethodName) prog_13_method_4_code 1 (some .long) own_R8 [(.ref (n0 + o0))] A (some (.long q.1)) q.2 :=
  met (W := tables_1) (a0 := a0) (own := "com/example/runnel/runnel/io/LineCounter") (nm := "column") (L0 := #[.val (.ref (n0 + o0))]) (plainFor_of_name pn_8) hw rfl rfl (fun m => by first | (simp [entryFrame, mkF, argsToLocals, Value.category]; done) | rfl) (fun p e s m below meth c T K X => w8_0 K (own_sep hw) X o0 (show 0 + 0 ≤ 0 by decide) (show 0 + 0 ≤ 0 by decide) hf)
/-! body 9: LineCounter.endLastLine()V -/
theorem d9_0 : decode prog_13_method_11_code 0 = .ok (.aload_n 0, 1) := by decide +kernel
theorem d9_1 : decode prog_13_method_11_code 1 = .ok (.getfield 25, 3) := by decide +kernel
theorem d9_4 : decode prog_13_method_11_code 4 = .ok (.lconst 0, 1) := by decide +kernel
theorem d9_5 : decode prog_13_method_11_code 5 = .ok (.lcmp, 1) := by decide +kernel
theorem d9_6 : decode prog_13_method_11_code 6 = .ok (.ifCond .le 18, 3) := by decide +kernel
theorem d9_9 : decode prog_13_method_11_code 9 = .ok (.aload_n 0, 1) := by decide +kernel
theorem d9_10 : decode prog_13_method_11_code 10 = .ok (.dup, 1) := by decide +kernel
theorem d9_11 : decode prog_13_method_11_code 11 = .ok (.getfield 22, 3) := by decide +kernel
theorem d9_14 : decode prog_13_method_11_code 14 = .ok (.lconst 1, 1) := by decide +kernel
theorem d9_15 : decode prog_13_method_11_code 15 = .ok (.ladd, 1) := by decide +kernel
theorem d9_16 : decode prog_13_method_11_code 16 = .ok (.putfield 22, 3) := by decide +kernel
theorem d9_19 : decode prog_13_method_11_code 19 = .ok (.aload_n 0, 1) := by decide +kernel
theorem d9_20 : decode prog_13_method_11_code 20 = .ok (.lconst 0, 1) := by decide +kernel
theorem d9_21 : decode prog_13_method_11_code 21 = .ok (.putfield 25, 3) := by decide +kernel
theorem d9_24 : decode prog_13_method_11_code 24 = .ok (.return_, 1) := by decide +kernel
theorem pd_9 : parseMethodDescriptor "()V" = some ⟨[], none⟩ := by decide +kernel
abbrev own_R9 : Room := { frames := 0, cells := 0, slots := 0, locals := 0 }
def f9_24 (A : AH)  : Option (AH) :=
  some A
set_option maxRecDepth 65536 in
set_option maxHeartbeats 4000000 in
theorem w9_24 (K : Cx p l e own_R9 s m meth c Z a0 tables_1 "com/example/runnel/runnel/io/LineCounter" "endLastLine" prog_13_method_11_code 1 none) (sep : ∀ t, Sep Z (own_D t).2) (X : On p l e own_R9 s m args below meth c own_D Z n0 T A cells slots) (o0 : Nat) (hc : cells + 0 ≤ 0) (hs : slots + 0 ≤ 0) {q : AH} (hf : f9_24 A  = some q) :
    Go p e below (T.setTop (mkF m 24 #[.val (.ref (n0 + o0))] [])) (Fini own_D Z n0 s own_R9 none q) := by
  unfold f9_24 at hf
  cases hf
  exact retV K X (show cells ≤ 0 by omega) (show slots ≤ 0 by omega) d9_24
def f9_0 (A : AH) (o0 : Nat) : Option (AH) :=
  (asJ (h_fget A 10 o0 4)).bind fun v1 =>
  if (0 : Int64) < v1 then ((asJ (h_fget A 10 o0 3)).bind fun v2 =>
  (h_fset A 10 o0 3 (.long (v2 + (1 : Int64)))).bind fun A3 =>
  (h_fset A3 10 o0 4 (.long (0 : Int64))).bind fun A4 =>
  f9_24 A4 )
  else (f9_24 A )
set_option maxRecDepth 65536 in
set_option maxHeartbeats 4000000 in
theorem w9_0 (K : Cx p l e own_R9 s m meth c Z a0 tables_1 "com/example/runnel/runnel/io/LineCounter" "endLastLine" prog_13_method_11_code 1 none) (sep : ∀ t, Sep Z (own_D t).2) (X : On p l e own_R9 s m args below meth c own_D Z n0 T A cells slots) (o0 : Nat) (hc : cells + 0 ≤ 0) (hs : slots + 0 ≤ 0) {q : AH} (hf : f9_0 A o0 = some q) :
    Go p e below (T.setTop (mkF m 0 #[.val (.ref (n0 + o0))] [])) (Fini own_D Z n0 s own_R9 none q) := by
  unfold f9_0 at hf
  refine i_aloadN (pc' := 1) K X d9_0 rfl rfl rfl ?_
  obtain ⟨v1, g1, hf⟩ := bs hf
  refine getfJ (pc' := 4) K X (i := 52) rfl d9_1 (t := 10) (f := 4) (by decide) rfl g1 rfl (fun T1 X1 => ?_)
  refine i_lconst (pc' := 5) (v := (0 : Int64)) K X1 d9_4 rfl rfl ?_
  refine i_lcmp (pc' := 6) K X1 d9_5 rfl ?_
  by_cases hc6 : (0 : Int64) < v1
  · rw [if_pos hc6] at hf
    refine i_ifNo (pc' := 9) K X1 d9_6 rfl (tlt ((lw_gt _ _).mpr hc6)).2.2.2 ?_
    refine i_aloadN (pc' := 10) K X1 d9_9 rfl rfl rfl ?_
    refine i_dup (pc' := 11) K X1 d9_10 rfl rfl ?_
    obtain ⟨v2, g2, hf⟩ := bs hf
    refine getfJ (pc' := 14) K X1 (i := 40) rfl d9_11 (t := 10) (f := 3) (by decide) rfl g2 rfl (fun T2 X2 => ?_)
    refine i_lconst (pc' := 15) (v := (1 : Int64)) K X2 d9_14 rfl rfl ?_
    refine i_ladd (pc' := 16) K X2 d9_15 rfl ?_
    obtain ⟨A3, g3, hf⟩ := bs hf
    refine putf (pc' := 19) (va := (.long (v2 + (1 : Int64)))) K sep X2 (i := 40) rfl d9_16 (t := 10) (f := 3) (by decide) rfl (Or.inl (wd K (i := 41) rfl)) (i2 := 6) rfl (ty := .long) (by decide) rfl rfl g3 rfl (fun T3 X3 => ?_)
    refine i_aloadN (pc' := 20) K X3 d9_19 rfl rfl rfl ?_
    refine i_lconst (pc' := 21) (v := (0 : Int64)) K X3 d9_20 rfl rfl ?_
    obtain ⟨A4, g4, hf⟩ := bs hf
    refine putf (pc' := 24) (va := (.long (0 : Int64))) K sep X3 (i := 52) rfl d9_21 (t := 10) (f := 4) (by decide) rfl (Or.inl (wd K (i := 53) rfl)) (i2 := 6) rfl (ty := .long) (by decide) rfl rfl g4 rfl (fun T4 X4 => ?_)
    exact w9_24 K sep X4 o0 (show cells + 0 ≤ 0 by omega) (show slots + 0 ≤ 0 by omega) hf
  · rw [if_neg hc6] at hf
    refine i_ifYes (pc' := 24) K X1 d9_6 (flt (fun z => hc6 ((lw_gt _ _).mp z))).2.2.2 (by decide) (by decide) ?_
    exact w9_24 K sep X1 o0 (show cells + 0 ≤ 0 by omega) (show slots + 0 ≤ 0 by omega) hf
theorem pn_9 : plainName "com/example/runnel/runnel/io/LineCounter" = true := by first | (simp [plainName, overriddenIn]; done) | decide +kernel
theorem rm9 {l : Launch} {Z : State} {a0 : Array Value} {n0 : Nat} (hw : ∀ d ∈ tables_1, d.before a0 Z = true) (A : AH) (o0 : Nat) {q : AH} (hf : f9_0 A o0 = some q) :
    Met l own_D Z n0 (⟨"com/example/runnel/runnel/io/LineCounter", "endLastLine", "()V"⟩ : MethodName) prog_13_method_11_code 1 none own_R9 [(.ref (n0 + o0))] A none q :=
  met (W := tables_1) (a0 := a0) (own := "com/example/runnel/runnel/io/LineCounter") (nm := "endLastLine") (L0 := #[.val (.ref (n0 + o0))]) (plainFor_of_name pn_9) hw rfl rfl (fun m => by first | (simp [entryFrame, mkF, argsToLocals, Value.category]; done) | rfl) (fun p e s m below meth c T K X => w9_0 K (own_sep hw) X o0 (show 0 + 0 ≤ 0 by decide) (show 0 + 0 ≤ 0 by decide) hf)
/-! body 10: LineCounter.count(C)V -/
theorem d10_0 : decode prog_13_method_5_code 0 = .ok (.aload_n 0, 1) := by decide +kernel
theorem d10_1 : decode prog_13_method_5_code 1 = .ok (.getfield 19, 3) := by decide +kernel
theorem d10_4 : decode prog_13_method_5_code 4 = .ok (.arraylength, 1) := by decide +kernel
theorem d10_5 : decode prog_13_method_5_code 5 = .ok (.ifCond .le 7, 3) := by decide +kernel
theorem d10_8 : decode prog_13_method_5_code 8 = .ok (.aload_n 0, 1) := by decide +kernel
theorem d10_9 : decode prog_13_method_5_code 9 = .ok (.invokevirtual 28, 3) := by decide +kernel
theorem d10_12 : decode prog_13_method_5_code 12 = .ok (.aload_n 0, 1) := by decide +kernel
theorem d10_13 : decode prog_13_method_5_code 13 = .ok (.iload_n 1, 1) := by decide +kernel
theorem d10_14 : decode prog_13_method_5_code 14 = .ok (.invokevirtual 31, 3) := by decide +kernel
theorem d10_17 : decode prog_13_method_5_code 17 = .ok (.return_, 1) := by decide +kernel
theorem pd_10 : parseMethodDescriptor "(C)V" = some ⟨[.char], none⟩ := by decide +kernel
abbrev own_R10 : Room := { frames := 2, cells := 0, slots := 0, locals := 26 }
def f10_12 (A : AH) (o0 : Nat) (i1 : Int32) : Option (AH) :=
  (h_isA A 10 o0).bind fun y2 =>
  (f11_0 A o0 i1).bind fun A1 =>
  some A1
set_option maxRecDepth 65536 in
set_option maxHeartbeats 4000000 in
theorem w10_12 (K : Cx p l e own_R10 s m meth c Z a0 tables_1 "com/example/runnel/runnel/io/LineCounter" "count" prog_13_method_5_code 2 none) (sep : ∀ t, Sep Z (own_D t).2) (X : On p l e own_R10 s m args below meth c own_D Z n0 T A cells slots) (o0 : Nat) (i1 : Int32) (hc : cells + 0 ≤ 0) (hs : slots + 0 ≤ 0) {q : AH} (hf : f10_12 A o0 i1 = some q) :
    Go p e below (T.setTop (mkF m 12 #[.val (.ref (n0 + o0)), .val (.int i1)] [])) (Fini own_D Z n0 s own_R10 none q) := by
  unfold f10_12 at hf
  refine i_aloadN (pc' := 13) K X d10_12 rfl rfl rfl ?_
  refine i_iloadN (pc' := 14) K X d10_13 rfl rfl ?_
  obtain ⟨y2, g2, hf⟩ := bs hf
  obtain ⟨A1, g1, hf⟩ := bs hf
  refine callp (pc' := 17) (kc := cells) (ks := slots) (S' := []) (st := []) K X (i1 := 64) rfl (i2 := 66) rfl (i5 := 6) (t := 10) rfl (i6 := 65) rfl (i3 := 7) rfl (i4 := 67) rfl (by decide) (by decide) g2 (rm11 (l := l) (n0 := n0) (K.2.2.2.2.2.2.2.2) A o0 i1 g1) pd_11 rfl d10_14 rfl rfl (by decide) (w := 0) (Nat.le_of_eq rfl) (by decide) (show cells + 0 ≤ 0 by omega) (show slots + 0 ≤ 0 by omega) rfl rfl rfl rfl (fun T1 X1 => ?_)
  cases hf
  exact retV K X1 (show cells ≤ 0 by omega) (show slots ≤ 0 by omega) d10_17
def f10_0 (A : AH) (o0 : Nat) (i1 : Int32) : Option (AH) :=
  (asR (h_fget A 10 o0 2)).bind fun v1 =>
  (h_alen A 3 v1).bind fun v2 =>
  if (0 : Int32) < v2 then ((h_isA A 10 o0).bind fun y4 =>
  (f13_0 A o0).bind fun A3 =>
  f10_12 A3 o0 i1)
  else (f10_12 A o0 i1)
set_option maxRecDepth 65536 in
set_option maxHeartbeats 4000000 in
theorem w10_0 (K : Cx p l e own_R10 s m meth c Z a0 tables_1 "com/example/runnel/runnel/io/LineCounter" "count" prog_13_method_5_code 2 none) (sep : ∀ t, Sep Z (own_D t).2) (X : On p l e own_R10 s m args below meth c own_D Z n0 T A cells slots) (o0 : Nat) (i1 : Int32) (hc : cells + 0 ≤ 0) (hs : slots + 0 ≤ 0) {q : AH} (hf : f10_0 A o0 i1 = some q) :
    Go p e below (T.setTop (mkF m 0 #[.val (.ref (n0 + o0)), .val (.int i1)] [])) (Fini own_D Z n0 s own_R10 none q) := by
  unfold f10_0 at hf
  refine i_aloadN (pc' := 1) K X d10_0 rfl rfl rfl ?_
  obtain ⟨v1, g1, hf⟩ := bs hf
  refine getfR (pc' := 4) K X (i := 20) rfl d10_1 (t := 10) (f := 2) (by decide) rfl g1 rfl (fun T1 X1 => ?_)
  obtain ⟨v2, g2, hf⟩ := bs hf
  refine h_alen' (pc' := 5) K X1 (t := 3) (by decide) g2 d10_4 rfl ?_
  by_cases hc5 : (0 : Int32) < v2
  · rw [if_pos hc5] at hf
    refine i_ifNo (pc' := 8) K X1 d10_5 rfl (tlt hc5).2.2.2 ?_
    refine i_aloadN (pc' := 9) K X1 d10_8 rfl rfl rfl ?_
    obtain ⟨y4, g4, hf⟩ := bs hf
    obtain ⟨A3, g3, hf⟩ := bs hf
    refine callp (pc' := 12) (kc := cells) (ks := slots) (S' := []) (st := []) K X1 (i1 := 73) rfl (i2 := 75) rfl (i5 := 6) (t := 10) rfl (i6 := 74) rfl (i3 := 7) rfl (i4 := 76) rfl (by decide) (by decide) g4 (rm13 (l := l) (n0 := n0) (K.2.2.2.2.2.2.2.2) A o0 g3) pd_13 rfl d10_9 rfl rfl (by decide) (w := 0) (Nat.le_of_eq rfl) (by decide) (show cells + 0 ≤ 0 by omega) (show slots + 0 ≤ 0 by omega) rfl rfl rfl rfl (fun T3 X3 => ?_)
    exact w10_12 K sep X3 o0 i1 (show cells + 0 ≤ 0 by omega) (show slots + 0 ≤ 0 by omega) hf
  · rw [if_neg hc5] at hf
    refine i_ifYes (pc' := 12) K X1 d10_5 (flt hc5).2.2.2 (by decide) (by decide) ?_
    exact w10_12 K sep X1 o0 i1 (show cells + 0 ≤ 0 by omega) (show slots + 0 ≤ 0 by omega) hf
theorem pn_10 : plainName "com/example/runnel/runnel/io/LineCounter" = true := by first | (simp [plainName, overriddenIn]; done) | decide +kernel
theorem rm10 {l : Launch} {Z : State} {a0 : Array Value} {n0 : Nat} (hw : ∀ d ∈ tables_1, d.before a0 Z = true) (A : AH) (o0 : Nat) (i1 : Int32) {q : AH} (hf : f10_0 A o0 i1 = some q) :
    Met l own_D Z n0 (⟨"com/example/runnel/runnel/io/LineCounter", "count", "(C)V"⟩ : MethodName) prog_13_method_5_code 2 none own_R10 [(.ref (n0 + o0)), (.int i1)] A none q :=
  met (W := tables_1) (a0 := a0) (own := "com/example/runnel/runnel/io/LineCounter") (nm := "count") (L0 := #[.val (.ref (n0 + o0)), .val (.int i1)]) (plainFor_of_name pn_10) hw rfl rfl (fun m => by first | (simp [entryFrame, mkF, argsToLocals, Value.category]; done) | rfl) (fun p e s m below meth c T K X => w10_0 K (own_sep hw) X o0 i1 (show 0 + 0 ≤ 0 by decide) (show 0 + 0 ≤ 0 by decide) hf)
def f0_352 (A : AH) (s0 : Int32) : Option (Int32 × AH) :=
  some ((nar .boolean s0), A)
set_option maxRecDepth 65536 in
set_option maxHeartbeats 4000000 in
theorem w0_352 (K : Cx p l e room_1 s m meth c Z a0 tables_1 "com/example/runnel/runnel/io/LineCounterEndLastLinePinLaw" "law" code maxLocals ret) (sep : ∀ t, Sep Z (own_D t).2) (X : On p l e room_1 s m args below meth c own_D Z n0 T A cells slots) (i0 : Int32) (i1 : Int32) (i2 : Int32) (i3 : Int32) (i4 : Int32) (i5 : Int32) (i6 : Int32) (i7 : Int32) (o8 : Nat) (i9 : Int32) (o10 : Nat) (j11 : Int64) (j13 : Int64) (j15 : Int64) (j17 : Int64) (i19 : Int32) (i20 : Int32) (j21 : Int64) (j23 : Int64) (i25 : Int32) (s0 : Int32) (hc : cells + 0 ≤ 16) (hs : slots + 0 ≤ 128) {q : Int32 × AH} (hf : f0_352 A s0 = some q) :
    Go p e below (T.setTop (mkF m 352 #[.val (.int i0), .val (.int i1), .val (.int i2), .val (.int i3), .val (.int i4), .val (.int i5), .val (.int i6), .val (.int i7), .val (.ref (n0 + o8)), .val (.int i9), .val (.ref (n0 + o10)), .val (.long j11), .second, .val (.long j13), .second, .val (.long j15), .second, .val (.long j17), .second, .val (.int i19), .val (.int i20), .val (.long j21), .second, .val (.long j23), .second, .val (.int i25)] [(.int s0)])) (Fini own_D Z n0 s room_1 (some (.int q.1)) q.2) := by
  unfold f0_352 at hf
  cases hf
  exact retB K (by simp) X (show cells ≤ 16 by omega) (show slots ≤ 128 by omega) at_352
def f0_351 (A : AH)  : Option (Int32 × AH) :=
  f0_352 A (0 : Int32)
set_option maxRecDepth 65536 in
set_option maxHeartbeats 4000000 in
theorem w0_351 (K : Cx p l e room_1 s m meth c Z a0 tables_1 "com/example/runnel/runnel/io/LineCounterEndLastLinePinLaw" "law" code maxLocals ret) (sep : ∀ t, Sep Z (own_D t).2) (X : On p l e room_1 s m args below meth c own_D Z n0 T A cells slots) (i0 : Int32) (i1 : Int32) (i2 : Int32) (i3 : Int32) (i4 : Int32) (i5 : Int32) (i6 : Int32) (i7 : Int32) (o8 : Nat) (i9 : Int32) (o10 : Nat) (j11 : Int64) (j13 : Int64) (j15 : Int64) (j17 : Int64) (i19 : Int32) (i20 : Int32) (j21 : Int64) (j23 : Int64) (i25 : Int32) (hc : cells + 0 ≤ 16) (hs : slots + 0 ≤ 128) {q : Int32 × AH} (hf : f0_351 A  = some q) :
    Go p e below (T.setTop (mkF m 351 #[.val (.int i0), .val (.int i1), .val (.int i2), .val (.int i3), .val (.int i4), .val (.int i5), .val (.int i6), .val (.int i7), .val (.ref (n0 + o8)), .val (.int i9), .val (.ref (n0 + o10)), .val (.long j11), .second, .val (.long j13), .second, .val (.long j15), .second, .val (.long j17), .second, .val (.int i19), .val (.int i20), .val (.long j21), .second, .val (.long j23), .second, .val (.int i25)] [])) (Fini own_D Z n0 s room_1 (some (.int q.1)) q.2) := by
  unfold f0_351 at hf
  refine i_iconst (pc' := 352) (v := (0 : Int32)) K X at_351 rfl rfl ?_
  exact w0_352 K sep X i0 i1 i2 i3 i4 i5 i6 i7 o8 i9 o10 j11 j13 j15 j17 i19 i20 j21 j23 i25 (0 : Int32) (show cells + 0 ≤ 16 by omega) (show slots + 0 ≤ 128 by omega) hf
def f0_330 (A : AH) (j13 : Int64) (i20 : Int32) (i25 : Int32) : Option (Int32 × AH) :=
  if j13 < (0 : Int64) then (f0_351 A )
  else (if i20 = (0 : Int32) then (f0_351 A )
  else (if i25 = (0 : Int32) then (f0_351 A )
  else (f0_352 A (1 : Int32))))
set_option maxRecDepth 65536 in
set_option maxHeartbeats 4000000 in
theorem w0_330 (K : Cx p l e room_1 s m meth c Z a0 tables_1 "com/example/runnel/runnel/io/LineCounterEndLastLinePinLaw" "law" code maxLocals ret) (sep : ∀ t, Sep Z (own_D t).2) (X : On p l e room_1 s m args below meth c own_D Z n0 T A cells slots) (i0 : Int32) (i1 : Int32) (i2 : Int32) (i3 : Int32) (i4 : Int32) (i5 : Int32) (i6 : Int32) (i7 : Int32) (o8 : Nat) (i9 : Int32) (o10 : Nat) (j11 : Int64) (j13 : Int64) (j15 : Int64) (j17 : Int64) (i19 : Int32) (i20 : Int32) (j21 : Int64) (j23 : Int64) (i25 : Int32) (hc : cells + 0 ≤ 16) (hs : slots + 0 ≤ 128) {q : Int32 × AH} (hf : f0_330 A j13 i20 i25 = some q) :
    Go p e below (T.setTop (mkF m 330 #[.val (.int i0), .val (.int i1), .val (.int i2), .val (.int i3), .val (.int i4), .val (.int i5), .val (.int i6), .val (.int i7), .val (.ref (n0 + o8)), .val (.int i9), .val (.ref (n0 + o10)), .val (.long j11), .second, .val (.long j13), .second, .val (.long j15), .second, .val (.long j17), .second, .val (.int i19), .val (.int i20), .val (.long j21), .second, .val (.long j23), .second, .val (.int i25)] [])) (Fini own_D Z n0 s room_1 (some (.int q.1)) q.2) := by
  unfold f0_330 at hf
  refine i_lload (pc' := 332) K X at_330 rfl rfl ?_
  refine i_lconst (pc' := 333) (v := (0 : Int64)) K X at_332 rfl rfl ?_
  refine i_lcmp (pc' := 334) K X at_333 rfl ?_
  by_cases hc334 : j13 < (0 : Int64)
  · rw [if_pos hc334] at hf
    refine i_ifYes (pc' := 351) K X at_334 (tlt ((lw_lt _ _).mpr hc334)).1 (by decide) (by decide) ?_
    exact w0_351 K sep X i0 i1 i2 i3 i4 i5 i6 i7 o8 i9 o10 j11 j13 j15 j17 i19 i20 j21 j23 i25 (show cells + 0 ≤ 16 by omega) (show slots + 0 ≤ 128 by omega) hf
  · rw [if_neg hc334] at hf
    refine i_ifNo (pc' := 337) K X at_334 rfl (flt (fun z => hc334 ((lw_lt _ _).mp z))).1 ?_
    refine i_iload (pc' := 339) K X at_337 rfl rfl ?_
    by_cases hc339 : i20 = (0 : Int32)
    · rw [if_pos hc339] at hf
      refine i_ifYes (pc' := 351) K X at_339 (teq hc339).1 (by decide) (by decide) ?_
      exact w0_351 K sep X i0 i1 i2 i3 i4 i5 i6 i7 o8 i9 o10 j11 j13 j15 j17 i19 i20 j21 j23 i25 (show cells + 0 ≤ 16 by omega) (show slots + 0 ≤ 128 by omega) hf
    · rw [if_neg hc339] at hf
      refine i_ifNo (pc' := 342) K X at_339 rfl (feq hc339).1 ?_
      refine i_iload (pc' := 344) K X at_342 rfl rfl ?_
      by_cases hc344 : i25 = (0 : Int32)
      · rw [if_pos hc344] at hf
        refine i_ifYes (pc' := 351) K X at_344 (teq hc344).1 (by decide) (by decide) ?_
        exact w0_351 K sep X i0 i1 i2 i3 i4 i5 i6 i7 o8 i9 o10 j11 j13 j15 j17 i19 i20 j21 j23 i25 (show cells + 0 ≤ 16 by omega) (show slots + 0 ≤ 128 by omega) hf
      · rw [if_neg hc344] at hf
        refine i_ifNo (pc' := 347) K X at_344 rfl (feq hc344).1 ?_
        refine i_iconst (pc' := 348) (v := (1 : Int32)) K X at_347 rfl rfl ?_
        refine i_goto (pc' := 352) K X at_348 (by decide) (by decide) ?_
        exact w0_352 K sep X i0 i1 i2 i3 i4 i5 i6 i7 o8 i9 o10 j11 j13 j15 j17 i19 i20 j21 j23 i25 (1 : Int32) (show cells + 0 ≤ 16 by omega) (show slots + 0 ≤ 128 by omega) hf
def f0_328 (A : AH) (j13 : Int64) (i20 : Int32) (s0 : Int32) : Option (Int32 × AH) :=
  f0_330 A j13 i20 s0
set_option maxRecDepth 65536 in
set_option maxHeartbeats 4000000 in
theorem w0_328 (K : Cx p l e room_1 s m meth c Z a0 tables_1 "com/example/runnel/runnel/io/LineCounterEndLastLinePinLaw" "law" code maxLocals ret) (sep : ∀ t, Sep Z (own_D t).2) (X : On p l e room_1 s m args below meth c own_D Z n0 T A cells slots) (i0 : Int32) (i1 : Int32) (i2 : Int32) (i3 : Int32) (i4 : Int32) (i5 : Int32) (i6 : Int32) (i7 : Int32) (o8 : Nat) (i9 : Int32) (o10 : Nat) (j11 : Int64) (j13 : Int64) (j15 : Int64) (j17 : Int64) (i19 : Int32) (i20 : Int32) (j21 : Int64) (j23 : Int64) (s0 : Int32) (hc : cells + 0 ≤ 16) (hs : slots + 0 ≤ 128) {q : Int32 × AH} (hf : f0_328 A j13 i20 s0 = some q) :
    Go p e below (T.setTop (mkF m 328 #[.val (.int i0), .val (.int i1), .val (.int i2), .val (.int i3), .val (.int i4), .val (.int i5), .val (.int i6), .val (.int i7), .val (.ref (n0 + o8)), .val (.int i9), .val (.ref (n0 + o10)), .val (.long j11), .second, .val (.long j13), .second, .val (.long j15), .second, .val (.long j17), .second, .val (.int i19), .val (.int i20), .val (.long j21), .second, .val (.long j23), .second, .unset] [(.int s0)])) (Fini own_D Z n0 s room_1 (some (.int q.1)) q.2) := by
  unfold f0_328 at hf
  refine i_istore (pc' := 330) (Ls' := #[.val (.int i0), .val (.int i1), .val (.int i2), .val (.int i3), .val (.int i4), .val (.int i5), .val (.int i6), .val (.int i7), .val (.ref (n0 + o8)), .val (.int i9), .val (.ref (n0 + o10)), .val (.long j11), .second, .val (.long j13), .second, .val (.long j15), .second, .val (.long j17), .second, .val (.int i19), .val (.int i20), .val (.long j21), .second, .val (.long j23), .second, .val (.int s0)]) K X at_328 rfl rfl ?_
  exact w0_330 K sep X i0 i1 i2 i3 i4 i5 i6 i7 o8 i9 o10 j11 j13 j15 j17 i19 i20 j21 j23 s0 (show cells + 0 ≤ 16 by omega) (show slots + 0 ≤ 128 by omega) hf
def f0_327 (A : AH) (j13 : Int64) (i20 : Int32) : Option (Int32 × AH) :=
  f0_328 A j13 i20 (0 : Int32)
set_option maxRecDepth 65536 in
set_option maxHeartbeats 4000000 in
theorem w0_327 (K : Cx p l e room_1 s m meth c Z a0 tables_1 "com/example/runnel/runnel/io/LineCounterEndLastLinePinLaw" "law" code maxLocals ret) (sep : ∀ t, Sep Z (own_D t).2) (X : On p l e room_1 s m args below meth c own_D Z n0 T A cells slots) (i0 : Int32) (i1 : Int32) (i2 : Int32) (i3 : Int32) (i4 : Int32) (i5 : Int32) (i6 : Int32) (i7 : Int32) (o8 : Nat) (i9 : Int32) (o10 : Nat) (j11 : Int64) (j13 : Int64) (j15 : Int64) (j17 : Int64) (i19 : Int32) (i20 : Int32) (j21 : Int64) (j23 : Int64) (hc : cells + 0 ≤ 16) (hs : slots + 0 ≤ 128) {q : Int32 × AH} (hf : f0_327 A j13 i20 = some q) :
    Go p e below (T.setTop (mkF m 327 #[.val (.int i0), .val (.int i1), .val (.int i2), .val (.int i3), .val (.int i4), .val (.int i5), .val (.int i6), .val (.int i7), .val (.ref (n0 + o8)), .val (.int i9), .val (.ref (n0 + o10)), .val (.long j11), .second, .val (.long j13), .second, .val (.long j15), .second, .val (.long j17), .second, .val (.int i19), .val (.int i20), .val (.long j21), .second, .val (.long j23), .second, .unset] [])) (Fini own_D Z n0 s room_1 (some (.int q.1)) q.2) := by
  unfold f0_327 at hf
  refine i_iconst (pc' := 328) (v := (0 : Int32)) K X at_327 rfl rfl ?_
  exact w0_328 K sep X i0 i1 i2 i3 i4 i5 i6 i7 o8 i9 o10 j11 j13 j15 j17 i19 i20 j21 j23 (0 : Int32) (show cells + 0 ≤ 16 by omega) (show slots + 0 ≤ 128 by omega) hf
def f0_310 (A : AH) (j13 : Int64) (j15 : Int64) (i20 : Int32) (j23 : Int64) (u0 : Int64) : Option (Int32 × AH) :=
  if u0 = j15 then (if j23 = (1 : Int64) then (f0_328 A j13 i20 (1 : Int32))
  else (f0_327 A j13 i20))
  else (f0_327 A j13 i20)
set_option maxRecDepth 65536 in
set_option maxHeartbeats 4000000 in
theorem w0_310 (K : Cx p l e room_1 s m meth c Z a0 tables_1 "com/example/runnel/runnel/io/LineCounterEndLastLinePinLaw" "law" code maxLocals ret) (sep : ∀ t, Sep Z (own_D t).2) (X : On p l e room_1 s m args below meth c own_D Z n0 T A cells slots) (i0 : Int32) (i1 : Int32) (i2 : Int32) (i3 : Int32) (i4 : Int32) (i5 : Int32) (i6 : Int32) (i7 : Int32) (o8 : Nat) (i9 : Int32) (o10 : Nat) (j11 : Int64) (j13 : Int64) (j15 : Int64) (j17 : Int64) (i19 : Int32) (i20 : Int32) (j21 : Int64) (j23 : Int64) (u0 : Int64) (hc : cells + 0 ≤ 16) (hs : slots + 0 ≤ 128) {q : Int32 × AH} (hf : f0_310 A j13 j15 i20 j23 u0 = some q) :
    Go p e below (T.setTop (mkF m 310 #[.val (.int i0), .val (.int i1), .val (.int i2), .val (.int i3), .val (.int i4), .val (.int i5), .val (.int i6), .val (.int i7), .val (.ref (n0 + o8)), .val (.int i9), .val (.ref (n0 + o10)), .val (.long j11), .second, .val (.long j13), .second, .val (.long j15), .second, .val (.long j17), .second, .val (.int i19), .val (.int i20), .val (.long j21), .second, .val (.long j23), .second, .unset] [(.long u0)])) (Fini own_D Z n0 s room_1 (some (.int q.1)) q.2) := by
  unfold f0_310 at hf
  refine i_lload (pc' := 312) K X at_310 rfl rfl ?_
  refine i_lcmp (pc' := 313) K X at_312 rfl ?_
  by_cases hc313 : u0 = j15
  · rw [if_pos hc313] at hf
    refine i_ifNo (pc' := 316) K X at_313 rfl (teq ((lw_eq _ _).mpr hc313)).2 ?_
    refine i_lload (pc' := 318) K X at_316 rfl rfl ?_
    refine i_lconst (pc' := 319) (v := (1 : Int64)) K X at_318 rfl rfl ?_
    refine i_lcmp (pc' := 320) K X at_319 rfl ?_
    by_cases hc320 : j23 = (1 : Int64)
    · rw [if_pos hc320] at hf
      refine i_ifNo (pc' := 323) K X at_320 rfl (teq ((lw_eq _ _).mpr hc320)).2 ?_
      refine i_iconst (pc' := 324) (v := (1 : Int32)) K X at_323 rfl rfl ?_
      refine i_goto (pc' := 328) K X at_324 (by decide) (by decide) ?_
      exact w0_328 K sep X i0 i1 i2 i3 i4 i5 i6 i7 o8 i9 o10 j11 j13 j15 j17 i19 i20 j21 j23 (1 : Int32) (show cells + 0 ≤ 16 by omega) (show slots + 0 ≤ 128 by omega) hf
    · rw [if_neg hc320] at hf
      refine i_ifYes (pc' := 327) K X at_320 (feq (fun z => hc320 ((lw_eq _ _).mp z))).2 (by decide) (by decide) ?_
      exact w0_327 K sep X i0 i1 i2 i3 i4 i5 i6 i7 o8 i9 o10 j11 j13 j15 j17 i19 i20 j21 j23 (show cells + 0 ≤ 16 by omega) (show slots + 0 ≤ 128 by omega) hf
  · rw [if_neg hc313] at hf
    refine i_ifYes (pc' := 327) K X at_313 (feq (fun z => hc313 ((lw_eq _ _).mp z))).2 (by decide) (by decide) ?_
    exact w0_327 K sep X i0 i1 i2 i3 i4 i5 i6 i7 o8 i9 o10 j11 j13 j15 j17 i19 i20 j21 j23 (show cells + 0 ≤ 16 by omega) (show slots + 0 ≤ 128 by omega) hf
def f0_303 (A : AH) (j13 : Int64) (i20 : Int32) (s0 : Int32) : Option (Int32 × AH) :=
  f0_330 A j13 i20 s0
set_option maxRecDepth 65536 in
set_option maxHeartbeats 4000000 in
theorem w0_303 (K : Cx p l e room_1 s m meth c Z a0 tables_1 "com/example/runnel/runnel/io/LineCounterEndLastLinePinLaw" "law" code maxLocals ret) (sep : ∀ t, Sep Z (own_D t).2) (X : On p l e room_1 s m args below meth c own_D Z n0 T A cells slots) (i0 : Int32) (i1 : Int32) (i2 : Int32) (i3 : Int32) (i4 : Int32) (i5 : Int32) (i6 : Int32) (i7 : Int32) (o8 : Nat) (i9 : Int32) (o10 : Nat) (j11 : Int64) (j13 : Int64) (j15 : Int64) (j17 : Int64) (i19 : Int32) (i20 : Int32) (j21 : Int64) (j23 : Int64) (s0 : Int32) (hc : cells + 0 ≤ 16) (hs : slots + 0 ≤ 128) {q : Int32 × AH} (hf : f0_303 A j13 i20 s0 = some q) :
    Go p e below (T.setTop (mkF m 303 #[.val (.int i0), .val (.int i1), .val (.int i2), .val (.int i3), .val (.int i4), .val (.int i5), .val (.int i6), .val (.int i7), .val (.ref (n0 + o8)), .val (.int i9), .val (.ref (n0 + o10)), .val (.long j11), .second, .val (.long j13), .second, .val (.long j15), .second, .val (.long j17), .second, .val (.int i19), .val (.int i20), .val (.long j21), .second, .val (.long j23), .second, .unset] [(.int s0)])) (Fini own_D Z n0 s room_1 (some (.int q.1)) q.2) := by
  unfold f0_303 at hf
  refine i_istore (pc' := 305) (Ls' := #[.val (.int i0), .val (.int i1), .val (.int i2), .val (.int i3), .val (.int i4), .val (.int i5), .val (.int i6), .val (.int i7), .val (.ref (n0 + o8)), .val (.int i9), .val (.ref (n0 + o10)), .val (.long j11), .second, .val (.long j13), .second, .val (.long j15), .second, .val (.long j17), .second, .val (.int i19), .val (.int i20), .val (.long j21), .second, .val (.long j23), .second, .val (.int s0)]) K X at_303 rfl rfl ?_
  refine i_goto (pc' := 330) K X at_305 (by decide) (by decide) ?_
  exact w0_330 K sep X i0 i1 i2 i3 i4 i5 i6 i7 o8 i9 o10 j11 j13 j15 j17 i19 i20 j21 j23 s0 (show cells + 0 ≤ 16 by omega) (show slots + 0 ≤ 128 by omega) hf
def f0_302 (A : AH) (j13 : Int64) (i20 : Int32) : Option (Int32 × AH) :=
  f0_303 A j13 i20 (0 : Int32)
set_option maxRecDepth 65536 in
set_option maxHeartbeats 4000000 in
theorem w0_302 (K : Cx p l e room_1 s m meth c Z a0 tables_1 "com/example/runnel/runnel/io/LineCounterEndLastLinePinLaw" "law" code maxLocals ret) (sep : ∀ t, Sep Z (own_D t).2) (X : On p l e room_1 s m args below meth c own_D Z n0 T A cells slots) (i0 : Int32) (i1 : Int32) (i2 : Int32) (i3 : Int32) (i4 : Int32) (i5 : Int32) (i6 : Int32) (i7 : Int32) (o8 : Nat) (i9 : Int32) (o10 : Nat) (j11 : Int64) (j13 : Int64) (j15 : Int64) (j17 : Int64) (i19 : Int32) (i20 : Int32) (j21 : Int64) (j23 : Int64) (hc : cells + 0 ≤ 16) (hs : slots + 0 ≤ 128) {q : Int32 × AH} (hf : f0_302 A j13 i20 = some q) :
    Go p e below (T.setTop (mkF m 302 #[.val (.int i0), .val (.int i1), .val (.int i2), .val (.int i3), .val (.int i4), .val (.int i5), .val (.int i6), .val (.int i7), .val (.ref (n0 + o8)), .val (.int i9), .val (.ref (n0 + o10)), .val (.long j11), .second, .val (.long j13), .second, .val (.long j15), .second, .val (.long j17), .second, .val (.int i19), .val (.int i20), .val (.long j21), .second, .val (.long j23), .second, .unset] [])) (Fini own_D Z n0 s room_1 (some (.int q.1)) q.2) := by
  unfold f0_302 at hf
  refine i_iconst (pc' := 303) (v := (0 : Int32)) K X at_302 rfl rfl ?_
  exact w0_303 K sep X i0 i1 i2 i3 i4 i5 i6 i7 o8 i9 o10 j11 j13 j15 j17 i19 i20 j21 j23 (0 : Int32) (show cells + 0 ≤ 16 by omega) (show slots + 0 ≤ 128 by omega) hf
def f0_298 (A : AH) (j13 : Int64) (i20 : Int32) : Option (Int32 × AH) :=
  f0_303 A j13 i20 (1 : Int32)
set_option maxRecDepth 65536 in
set_option maxHeartbeats 4000000 in
theorem w0_298 (K : Cx p l e room_1 s m meth c Z a0 tables_1 "com/example/runnel/runnel/io/LineCounterEndLastLinePinLaw" "law" code maxLocals ret) (sep : ∀ t, Sep Z (own_D t).2) (X : On p l e room_1 s m args below meth c own_D Z n0 T A cells slots) (i0 : Int32) (i1 : Int32) (i2 : Int32) (i3 : Int32) (i4 : Int32) (i5 : Int32) (i6 : Int32) (i7 : Int32) (o8 : Nat) (i9 : Int32) (o10 : Nat) (j11 : Int64) (j13 : Int64) (j15 : Int64) (j17 : Int64) (i19 : Int32) (i20 : Int32) (j21 : Int64) (j23 : Int64) (hc : cells + 0 ≤ 16) (hs : slots + 0 ≤ 128) {q : Int32 × AH} (hf : f0_298 A j13 i20 = some q) :
    Go p e below (T.setTop (mkF m 298 #[.val (.int i0), .val (.int i1), .val (.int i2), .val (.int i3), .val (.int i4), .val (.int i5), .val (.int i6), .val (.int i7), .val (.ref (n0 + o8)), .val (.int i9), .val (.ref (n0 + o10)), .val (.long j11), .second, .val (.long j13), .second, .val (.long j15), .second, .val (.long j17), .second, .val (.int i19), .val (.int i20), .val (.long j21), .second, .val (.long j23), .second, .unset] [])) (Fini own_D Z n0 s room_1 (some (.int q.1)) q.2) := by
  unfold f0_298 at hf
  refine i_iconst (pc' := 299) (v := (1 : Int32)) K X at_298 rfl rfl ?_
  refine i_goto (pc' := 303) K X at_299 (by decide) (by decide) ?_
  exact w0_303 K sep X i0 i1 i2 i3 i4 i5 i6 i7 o8 i9 o10 j11 j13 j15 j17 i19 i20 j21 j23 (1 : Int32) (show cells + 0 ≤ 16 by omega) (show slots + 0 ≤ 128 by omega) hf
def f0_273 (A : AH) (j13 : Int64) (j15 : Int64) (i20 : Int32) (j21 : Int64) (j23 : Int64) : Option (Int32 × AH) :=
  if j23 = (0 : Int64) then (if j21 = j15 then (f0_298 A j13 i20)
  else (if j21 = (j15 + (1 : Int64)) then (f0_298 A j13 i20)
  else (f0_302 A j13 i20)))
  else (f0_302 A j13 i20)
set_option maxRecDepth 65536 in
set_option maxHeartbeats 4000000 in
theorem w0_273 (K : Cx p l e room_1 s m meth c Z a0 tables_1 "com/example/runnel/runnel/io/LineCounterEndLastLinePinLaw" "law" code maxLocals ret) (sep : ∀ t, Sep Z (own_D t).2) (X : On p l e room_1 s m args below meth c own_D Z n0 T A cells slots) (i0 : Int32) (i1 : Int32) (i2 : Int32) (i3 : Int32) (i4 : Int32) (i5 : Int32) (i6 : Int32) (i7 : Int32) (o8 : Nat) (i9 : Int32) (o10 : Nat) (j11 : Int64) (j13 : Int64) (j15 : Int64) (j17 : Int64) (i19 : Int32) (i20 : Int32) (j21 : Int64) (j23 : Int64) (hc : cells + 0 ≤ 16) (hs : slots + 0 ≤ 128) {q : Int32 × AH} (hf : f0_273 A j13 j15 i20 j21 j23 = some q) :
    Go p e below (T.setTop (mkF m 273 #[.val (.int i0), .val (.int i1), .val (.int i2), .val (.int i3), .val (.int i4), .val (.int i5), .val (.int i6), .val (.int i7), .val (.ref (n0 + o8)), .val (.int i9), .val (.ref (n0 + o10)), .val (.long j11), .second, .val (.long j13), .second, .val (.long j15), .second, .val (.long j17), .second, .val (.int i19), .val (.int i20), .val (.long j21), .second, .val (.long j23), .second, .unset] [])) (Fini own_D Z n0 s room_1 (some (.int q.1)) q.2) := by
  unfold f0_273 at hf
  refine i_lload (pc' := 275) K X at_273 rfl rfl ?_
  refine i_lconst (pc' := 276) (v := (0 : Int64)) K X at_275 rfl rfl ?_
  refine i_lcmp (pc' := 277) K X at_276 rfl ?_
  by_cases hc277 : j23 = (0 : Int64)
  · rw [if_pos hc277] at hf
    refine i_ifNo (pc' := 280) K X at_277 rfl (teq ((lw_eq _ _).mpr hc277)).2 ?_
    refine i_lload (pc' := 282) K X at_280 rfl rfl ?_
    refine i_lload (pc' := 284) K X at_282 rfl rfl ?_
    refine i_lcmp (pc' := 285) K X at_284 rfl ?_
    by_cases hc285 : j21 = j15
    · rw [if_pos hc285] at hf
      refine i_ifYes (pc' := 298) K X at_285 (teq ((lw_eq _ _).mpr hc285)).1 (by decide) (by decide) ?_
      exact w0_298 K sep X i0 i1 i2 i3 i4 i5 i6 i7 o8 i9 o10 j11 j13 j15 j17 i19 i20 j21 j23 (show cells + 0 ≤ 16 by omega) (show slots + 0 ≤ 128 by omega) hf
    · rw [if_neg hc285] at hf
      refine i_ifNo (pc' := 288) K X at_285 rfl (feq (fun z => hc285 ((lw_eq _ _).mp z))).1 ?_
      refine i_lload (pc' := 290) K X at_288 rfl rfl ?_
      refine i_lload (pc' := 292) K X at_290 rfl rfl ?_
      refine i_lconst (pc' := 293) (v := (1 : Int64)) K X at_292 rfl rfl ?_
      refine i_ladd (pc' := 294) K X at_293 rfl ?_
      refine i_lcmp (pc' := 295) K X at_294 rfl ?_
      by_cases hc295 : j21 = (j15 + (1 : Int64))
      · rw [if_pos hc295] at hf
        refine i_ifNo (pc' := 298) K X at_295 rfl (teq ((lw_eq _ _).mpr hc295)).2 ?_
        exact w0_298 K sep X i0 i1 i2 i3 i4 i5 i6 i7 o8 i9 o10 j11 j13 j15 j17 i19 i20 j21 j23 (show cells + 0 ≤ 16 by omega) (show slots + 0 ≤ 128 by omega) hf
      · rw [if_neg hc295] at hf
        refine i_ifYes (pc' := 302) K X at_295 (feq (fun z => hc295 ((lw_eq _ _).mp z))).2 (by decide) (by decide) ?_
        exact w0_302 K sep X i0 i1 i2 i3 i4 i5 i6 i7 o8 i9 o10 j11 j13 j15 j17 i19 i20 j21 j23 (show cells + 0 ≤ 16 by omega) (show slots + 0 ≤ 128 by omega) hf
  · rw [if_neg hc277] at hf
    refine i_ifYes (pc' := 302) K X at_277 (feq (fun z => hc277 ((lw_eq _ _).mp z))).2 (by decide) (by decide) ?_
    exact w0_302 K sep X i0 i1 i2 i3 i4 i5 i6 i7 o8 i9 o10 j11 j13 j15 j17 i19 i20 j21 j23 (show cells + 0 ≤ 16 by omega) (show slots + 0 ≤ 128 by omega) hf
def f0_268 (A : AH) (j13 : Int64) (i20 : Int32) (s0 : Int32) : Option (Int32 × AH) :=
  f0_330 A j13 i20 s0
set_option maxRecDepth 65536 in
set_option maxHeartbeats 4000000 in
theorem w0_268 (K : Cx p l e room_1 s m meth c Z a0 tables_1 "com/example/runnel/runnel/io/LineCounterEndLastLinePinLaw" "law" code maxLocals ret) (sep : ∀ t, Sep Z (own_D t).2) (X : On p l e room_1 s m args below meth c own_D Z n0 T A cells slots) (i0 : Int32) (i1 : Int32) (i2 : Int32) (i3 : Int32) (i4 : Int32) (i5 : Int32) (i6 : Int32) (i7 : Int32) (o8 : Nat) (i9 : Int32) (o10 : Nat) (j11 : Int64) (j13 : Int64) (j15 : Int64) (j17 : Int64) (i19 : Int32) (i20 : Int32) (j21 : Int64) (j23 : Int64) (s0 : Int32) (hc : cells + 0 ≤ 16) (hs : slots + 0 ≤ 128) {q : Int32 × AH} (hf : f0_268 A j13 i20 s0 = some q) :
    Go p e below (T.setTop (mkF m 268 #[.val (.int i0), .val (.int i1), .val (.int i2), .val (.int i3), .val (.int i4), .val (.int i5), .val (.int i6), .val (.int i7), .val (.ref (n0 + o8)), .val (.int i9), .val (.ref (n0 + o10)), .val (.long j11), .second, .val (.long j13), .second, .val (.long j15), .second, .val (.long j17), .second, .val (.int i19), .val (.int i20), .val (.long j21), .second, .val (.long j23), .second, .unset] [(.int s0)])) (Fini own_D Z n0 s room_1 (some (.int q.1)) q.2) := by
  unfold f0_268 at hf
  refine i_istore (pc' := 270) (Ls' := #[.val (.int i0), .val (.int i1), .val (.int i2), .val (.int i3), .val (.int i4), .val (.int i5), .val (.int i6), .val (.int i7), .val (.ref (n0 + o8)), .val (.int i9), .val (.ref (n0 + o10)), .val (.long j11), .second, .val (.long j13), .second, .val (.long j15), .second, .val (.long j17), .second, .val (.int i19), .val (.int i20), .val (.long j21), .second, .val (.long j23), .second, .val (.int s0)]) K X at_268 rfl rfl ?_
  refine i_goto (pc' := 330) K X at_270 (by decide) (by decide) ?_
  exact w0_330 K sep X i0 i1 i2 i3 i4 i5 i6 i7 o8 i9 o10 j11 j13 j15 j17 i19 i20 j21 j23 s0 (show cells + 0 ≤ 16 by omega) (show slots + 0 ≤ 128 by omega) hf
def f0_267 (A : AH) (j13 : Int64) (i20 : Int32) : Option (Int32 × AH) :=
  f0_268 A j13 i20 (0 : Int32)
set_option maxRecDepth 65536 in
set_option maxHeartbeats 4000000 in
theorem w0_267 (K : Cx p l e room_1 s m meth c Z a0 tables_1 "com/example/runnel/runnel/io/LineCounterEndLastLinePinLaw" "law" code maxLocals ret) (sep : ∀ t, Sep Z (own_D t).2) (X : On p l e room_1 s m args below meth c own_D Z n0 T A cells slots) (i0 : Int32) (i1 : Int32) (i2 : Int32) (i3 : Int32) (i4 : Int32) (i5 : Int32) (i6 : Int32) (i7 : Int32) (o8 : Nat) (i9 : Int32) (o10 : Nat) (j11 : Int64) (j13 : Int64) (j15 : Int64) (j17 : Int64) (i19 : Int32) (i20 : Int32) (j21 : Int64) (j23 : Int64) (hc : cells + 0 ≤ 16) (hs : slots + 0 ≤ 128) {q : Int32 × AH} (hf : f0_267 A j13 i20 = some q) :
    Go p e below (T.setTop (mkF m 267 #[.val (.int i0), .val (.int i1), .val (.int i2), .val (.int i3), .val (.int i4), .val (.int i5), .val (.int i6), .val (.int i7), .val (.ref (n0 + o8)), .val (.int i9), .val (.ref (n0 + o10)), .val (.long j11), .second, .val (.long j13), .second, .val (.long j15), .second, .val (.long j17), .second, .val (.int i19), .val (.int i20), .val (.long j21), .second, .val (.long j23), .second, .unset] [])) (Fini own_D Z n0 s room_1 (some (.int q.1)) q.2) := by
  unfold f0_267 at hf
  refine i_iconst (pc' := 268) (v := (0 : Int32)) K X at_267 rfl rfl ?_
  exact w0_268 K sep X i0 i1 i2 i3 i4 i5 i6 i7 o8 i9 o10 j11 j13 j15 j17 i19 i20 j21 j23 (0 : Int32) (show cells + 0 ≤ 16 by omega) (show slots + 0 ≤ 128 by omega) hf
def f0_246 (A : AH) (j13 : Int64) (j15 : Int64) (i20 : Int32) (j21 : Int64) (j23 : Int64) : Option (Int32 × AH) :=
  if j23 = (0 : Int64) then (if j21 = (j15 + (1 : Int64)) then (f0_268 A j13 i20 (1 : Int32))
  else (f0_267 A j13 i20))
  else (f0_267 A j13 i20)
set_option maxRecDepth 65536 in
set_option maxHeartbeats 4000000 in
theorem w0_246 (K : Cx p l e room_1 s m meth c Z a0 tables_1 "com/example/runnel/runnel/io/LineCounterEndLastLinePinLaw" "law" code maxLocals ret) (sep : ∀ t, Sep Z (own_D t).2) (X : On p l e room_1 s m args below meth c own_D Z n0 T A cells slots) (i0 : Int32) (i1 : Int32) (i2 : Int32) (i3 : Int32) (i4 : Int32) (i5 : Int32) (i6 : Int32) (i7 : Int32) (o8 : Nat) (i9 : Int32) (o10 : Nat) (j11 : Int64) (j13 : Int64) (j15 : Int64) (j17 : Int64) (i19 : Int32) (i20 : Int32) (j21 : Int64) (j23 : Int64) (hc : cells + 0 ≤ 16) (hs : slots + 0 ≤ 128) {q : Int32 × AH} (hf : f0_246 A j13 j15 i20 j21 j23 = some q) :
    Go p e below (T.setTop (mkF m 246 #[.val (.int i0), .val (.int i1), .val (.int i2), .val (.int i3), .val (.int i4), .val (.int i5), .val (.int i6), .val (.int i7), .val (.ref (n0 + o8)), .val (.int i9), .val (.ref (n0 + o10)), .val (.long j11), .second, .val (.long j13), .second, .val (.long j15), .second, .val (.long j17), .second, .val (.int i19), .val (.int i20), .val (.long j21), .second, .val (.long j23), .second, .unset] [])) (Fini own_D Z n0 s room_1 (some (.int q.1)) q.2) := by
  unfold f0_246 at hf
  refine i_lload (pc' := 248) K X at_246 rfl rfl ?_
  refine i_lconst (pc' := 249) (v := (0 : Int64)) K X at_248 rfl rfl ?_
  refine i_lcmp (pc' := 250) K X at_249 rfl ?_
  by_cases hc250 : j23 = (0 : Int64)
  · rw [if_pos hc250] at hf
    refine i_ifNo (pc' := 253) K X at_250 rfl (teq ((lw_eq _ _).mpr hc250)).2 ?_
    refine i_lload (pc' := 255) K X at_253 rfl rfl ?_
    refine i_lload (pc' := 257) K X at_255 rfl rfl ?_
    refine i_lconst (pc' := 258) (v := (1 : Int64)) K X at_257 rfl rfl ?_
    refine i_ladd (pc' := 259) K X at_258 rfl ?_
    refine i_lcmp (pc' := 260) K X at_259 rfl ?_
    by_cases hc260 : j21 = (j15 + (1 : Int64))
    · rw [if_pos hc260] at hf
      refine i_ifNo (pc' := 263) K X at_260 rfl (teq ((lw_eq _ _).mpr hc260)).2 ?_
      refine i_iconst (pc' := 264) (v := (1 : Int32)) K X at_263 rfl rfl ?_
      refine i_goto (pc' := 268) K X at_264 (by decide) (by decide) ?_
      exact w0_268 K sep X i0 i1 i2 i3 i4 i5 i6 i7 o8 i9 o10 j11 j13 j15 j17 i19 i20 j21 j23 (1 : Int32) (show cells + 0 ≤ 16 by omega) (show slots + 0 ≤ 128 by omega) hf
    · rw [if_neg hc260] at hf
      refine i_ifYes (pc' := 267) K X at_260 (feq (fun z => hc260 ((lw_eq _ _).mp z))).2 (by decide) (by decide) ?_
      exact w0_267 K sep X i0 i1 i2 i3 i4 i5 i6 i7 o8 i9 o10 j11 j13 j15 j17 i19 i20 j21 j23 (show cells + 0 ≤ 16 by omega) (show slots + 0 ≤ 128 by omega) hf
  · rw [if_neg hc250] at hf
    refine i_ifYes (pc' := 267) K X at_250 (feq (fun z => hc250 ((lw_eq _ _).mp z))).2 (by decide) (by decide) ?_
    exact w0_267 K sep X i0 i1 i2 i3 i4 i5 i6 i7 o8 i9 o10 j11 j13 j15 j17 i19 i20 j21 j23 (show cells + 0 ≤ 16 by omega) (show slots + 0 ≤ 128 by omega) hf
def f0_229 (A : AH) (j13 : Int64) (i20 : Int32) (s0 : Int32) : Option (Int32 × AH) :=
  f0_330 A j13 i20 s0
set_option maxRecDepth 65536 in
set_option maxHeartbeats 4000000 in
theorem w0_229 (K : Cx p l e room_1 s m meth c Z a0 tables_1 "com/example/runnel/runnel/io/LineCounterEndLastLinePinLaw" "law" code maxLocals ret) (sep : ∀ t, Sep Z (own_D t).2) (X : On p l e room_1 s m args below meth c own_D Z n0 T A cells slots) (i0 : Int32) (i1 : Int32) (i2 : Int32) (i3 : Int32) (i4 : Int32) (i5 : Int32) (i6 : Int32) (i7 : Int32) (o8 : Nat) (i9 : Int32) (o10 : Nat) (j11 : Int64) (j13 : Int64) (j15 : Int64) (j17 : Int64) (i19 : Int32) (i20 : Int32) (j21 : Int64) (j23 : Int64) (s0 : Int32) (hc : cells + 0 ≤ 16) (hs : slots + 0 ≤ 128) {q : Int32 × AH} (hf : f0_229 A j13 i20 s0 = some q) :
    Go p e below (T.setTop (mkF m 229 #[.val (.int i0), .val (.int i1), .val (.int i2), .val (.int i3), .val (.int i4), .val (.int i5), .val (.int i6), .val (.int i7), .val (.ref (n0 + o8)), .val (.int i9), .val (.ref (n0 + o10)), .val (.long j11), .second, .val (.long j13), .second, .val (.long j15), .second, .val (.long j17), .second, .val (.int i19), .val (.int i20), .val (.long j21), .second, .val (.long j23), .second, .unset] [(.int s0)])) (Fini own_D Z n0 s room_1 (some (.int q.1)) q.2) := by
  unfold f0_229 at hf
  refine i_istore (pc' := 231) (Ls' := #[.val (.int i0), .val (.int i1), .val (.int i2), .val (.int i3), .val (.int i4), .val (.int i5), .val (.int i6), .val (.int i7), .val (.ref (n0 + o8)), .val (.int i9), .val (.ref (n0 + o10)), .val (.long j11), .second, .val (.long j13), .second, .val (.long j15), .second, .val (.long j17), .second, .val (.int i19), .val (.int i20), .val (.long j21), .second, .val (.long j23), .second, .val (.int s0)]) K X at_229 rfl rfl ?_
  refine i_goto (pc' := 330) K X at_231 (by decide) (by decide) ?_
  exact w0_330 K sep X i0 i1 i2 i3 i4 i5 i6 i7 o8 i9 o10 j11 j13 j15 j17 i19 i20 j21 j23 s0 (show cells + 0 ≤ 16 by omega) (show slots + 0 ≤ 128 by omega) hf
def f0_228 (A : AH) (j13 : Int64) (i20 : Int32) : Option (Int32 × AH) :=
  f0_229 A j13 i20 (0 : Int32)
set_option maxRecDepth 65536 in
set_option maxHeartbeats 4000000 in
theorem w0_228 (K : Cx p l e room_1 s m meth c Z a0 tables_1 "com/example/runnel/runnel/io/LineCounterEndLastLinePinLaw" "law" code maxLocals ret) (sep : ∀ t, Sep Z (own_D t).2) (X : On p l e room_1 s m args below meth c own_D Z n0 T A cells slots) (i0 : Int32) (i1 : Int32) (i2 : Int32) (i3 : Int32) (i4 : Int32) (i5 : Int32) (i6 : Int32) (i7 : Int32) (o8 : Nat) (i9 : Int32) (o10 : Nat) (j11 : Int64) (j13 : Int64) (j15 : Int64) (j17 : Int64) (i19 : Int32) (i20 : Int32) (j21 : Int64) (j23 : Int64) (hc : cells + 0 ≤ 16) (hs : slots + 0 ≤ 128) {q : Int32 × AH} (hf : f0_228 A j13 i20 = some q) :
    Go p e below (T.setTop (mkF m 228 #[.val (.int i0), .val (.int i1), .val (.int i2), .val (.int i3), .val (.int i4), .val (.int i5), .val (.int i6), .val (.int i7), .val (.ref (n0 + o8)), .val (.int i9), .val (.ref (n0 + o10)), .val (.long j11), .second, .val (.long j13), .second, .val (.long j15), .second, .val (.long j17), .second, .val (.int i19), .val (.int i20), .val (.long j21), .second, .val (.long j23), .second, .unset] [])) (Fini own_D Z n0 s room_1 (some (.int q.1)) q.2) := by
  unfold f0_228 at hf
  refine i_iconst (pc' := 229) (v := (0 : Int32)) K X at_228 rfl rfl ?_
  exact w0_229 K sep X i0 i1 i2 i3 i4 i5 i6 i7 o8 i9 o10 j11 j13 j15 j17 i19 i20 j21 j23 (0 : Int32) (show cells + 0 ≤ 16 by omega) (show slots + 0 ≤ 128 by omega) hf
def f0_213 (A : AH) (j13 : Int64) (i20 : Int32) (j23 : Int64) (u0 : Int64) (u1 : Int64) : Option (Int32 × AH) :=
  if u1 = u0 then (if j23 = (0 : Int64) then (f0_229 A j13 i20 (1 : Int32))
  else (f0_228 A j13 i20))
  else (f0_228 A j13 i20)
set_option maxRecDepth 65536 in
set_option maxHeartbeats 4000000 in
theorem w0_213 (K : Cx p l e room_1 s m meth c Z a0 tables_1 "com/example/runnel/runnel/io/LineCounterEndLastLinePinLaw" "law" code maxLocals ret) (sep : ∀ t, Sep Z (own_D t).2) (X : On p l e room_1 s m args below meth c own_D Z n0 T A cells slots) (i0 : Int32) (i1 : Int32) (i2 : Int32) (i3 : Int32) (i4 : Int32) (i5 : Int32) (i6 : Int32) (i7 : Int32) (o8 : Nat) (i9 : Int32) (o10 : Nat) (j11 : Int64) (j13 : Int64) (j15 : Int64) (j17 : Int64) (i19 : Int32) (i20 : Int32) (j21 : Int64) (j23 : Int64) (u0 : Int64) (u1 : Int64) (hc : cells + 0 ≤ 16) (hs : slots + 0 ≤ 128) {q : Int32 × AH} (hf : f0_213 A j13 i20 j23 u0 u1 = some q) :
    Go p e below (T.setTop (mkF m 213 #[.val (.int i0), .val (.int i1), .val (.int i2), .val (.int i3), .val (.int i4), .val (.int i5), .val (.int i6), .val (.int i7), .val (.ref (n0 + o8)), .val (.int i9), .val (.ref (n0 + o10)), .val (.long j11), .second, .val (.long j13), .second, .val (.long j15), .second, .val (.long j17), .second, .val (.int i19), .val (.int i20), .val (.long j21), .second, .val (.long j23), .second, .unset] [(.long u0), (.long u1)])) (Fini own_D Z n0 s room_1 (some (.int q.1)) q.2) := by
  unfold f0_213 at hf
  refine i_lcmp (pc' := 214) K X at_213 rfl ?_
  by_cases hc214 : u1 = u0
  · rw [if_pos hc214] at hf
    refine i_ifNo (pc' := 217) K X at_214 rfl (teq ((lw_eq _ _).mpr hc214)).2 ?_
    refine i_lload (pc' := 219) K X at_217 rfl rfl ?_
    refine i_lconst (pc' := 220) (v := (0 : Int64)) K X at_219 rfl rfl ?_
    refine i_lcmp (pc' := 221) K X at_220 rfl ?_
    by_cases hc221 : j23 = (0 : Int64)
    · rw [if_pos hc221] at hf
      refine i_ifNo (pc' := 224) K X at_221 rfl (teq ((lw_eq _ _).mpr hc221)).2 ?_
      refine i_iconst (pc' := 225) (v := (1 : Int32)) K X at_224 rfl rfl ?_
      refine i_goto (pc' := 229) K X at_225 (by decide) (by decide) ?_
      exact w0_229 K sep X i0 i1 i2 i3 i4 i5 i6 i7 o8 i9 o10 j11 j13 j15 j17 i19 i20 j21 j23 (1 : Int32) (show cells + 0 ≤ 16 by omega) (show slots + 0 ≤ 128 by omega) hf
    · rw [if_neg hc221] at hf
      refine i_ifYes (pc' := 228) K X at_221 (feq (fun z => hc221 ((lw_eq _ _).mp z))).2 (by decide) (by decide) ?_
      exact w0_228 K sep X i0 i1 i2 i3 i4 i5 i6 i7 o8 i9 o10 j11 j13 j15 j17 i19 i20 j21 j23 (show cells + 0 ≤ 16 by omega) (show slots + 0 ≤ 128 by omega) hf
  · rw [if_neg hc214] at hf
    refine i_ifYes (pc' := 228) K X at_214 (feq (fun z => hc214 ((lw_eq _ _).mp z))).2 (by decide) (by decide) ?_
    exact w0_228 K sep X i0 i1 i2 i3 i4 i5 i6 i7 o8 i9 o10 j11 j13 j15 j17 i19 i20 j21 j23 (show cells + 0 ≤ 16 by omega) (show slots + 0 ≤ 128 by omega) hf
def f0_179 (A : AH) (i9 : Int32) (o10 : Nat) (j13 : Int64) (j15 : Int64) (i19 : Int32) (i20 : Int32) : Option (Int32 × AH) :=
  (h_isA A 10 o10).bind fun y2 =>
  (f10_0 A o10 i9).bind fun A1 =>
  (h_isA A1 10 o10).bind fun y4 =>
  (f7_0 A1 o10).bind fun q3 =>
  (h_isA q3.2 10 o10).bind fun y6 =>
  (f8_0 q3.2 o10).bind fun q5 =>
  if i9 = (13 : Int32) then (f0_213 q5.2 j13 i20 q5.1 (j15 + (1 : Int64)) q3.1)
  else (if i9 = (10 : Int32) then (if i19 = (0 : Int32) then (f0_273 q5.2 j13 j15 i20 q3.1 q5.1)
  else (f0_246 q5.2 j13 j15 i20 q3.1 q5.1))
  else (f0_310 q5.2 j13 j15 i20 q5.1 q3.1))
set_option maxRecDepth 65536 in
set_option maxHeartbeats 4000000 in
theorem w0_179 (K : Cx p l e room_1 s m meth c Z a0 tables_1 "com/example/runnel/runnel/io/LineCounterEndLastLinePinLaw" "law" code maxLocals ret) (sep : ∀ t, Sep Z (own_D t).2) (X : On p l e room_1 s m args below meth c own_D Z n0 T A cells slots) (i0 : Int32) (i1 : Int32) (i2 : Int32) (i3 : Int32) (i4 : Int32) (i5 : Int32) (i6 : Int32) (i7 : Int32) (o8 : Nat) (i9 : Int32) (o10 : Nat) (j11 : Int64) (j13 : Int64) (j15 : Int64) (j17 : Int64) (i19 : Int32) (i20 : Int32) (hc : cells + 0 ≤ 16) (hs : slots + 0 ≤ 128) {q : Int32 × AH} (hf : f0_179 A i9 o10 j13 j15 i19 i20 = some q) :
    Go p e below (T.setTop (mkF m 179 #[.val (.int i0), .val (.int i1), .val (.int i2), .val (.int i3), .val (.int i4), .val (.int i5), .val (.int i6), .val (.int i7), .val (.ref (n0 + o8)), .val (.int i9), .val (.ref (n0 + o10)), .val (.long j11), .second, .val (.long j13), .second, .val (.long j15), .second, .val (.long j17), .second, .val (.int i19), .val (.int i20), .unset, .unset, .unset, .unset, .unset] [])) (Fini own_D Z n0 s room_1 (some (.int q.1)) q.2) := by
  unfold f0_179 at hf
  refine i_aload (pc' := 181) K X at_179 rfl rfl rfl ?_
  refine i_iload (pc' := 183) K X at_181 rfl rfl ?_
  obtain ⟨y2, g2, hf⟩ := bs hf
  obtain ⟨A1, g1, hf⟩ := bs hf
  refine callv (pc' := 186) (kc := cells) (ks := slots) (S' := []) (st := []) K X (i1 := 59) rfl (i2 := 60) rfl (i5 := 62) (t := 10) rfl (i6 := 61) rfl (i3 := 7) rfl (i4 := 63) rfl (by decide) (by decide) g2 (rm10 (l := l) (n0 := n0) (K.2.2.2.2.2.2.2.2) A o10 i9 g1) pd_10 rfl at_183 rfl rfl (by decide) (w := 0) (Nat.le_of_eq rfl) (by decide) (show cells + 0 ≤ 16 by omega) (show slots + 0 ≤ 128 by omega) rfl rfl rfl rfl (fun T1 X1 => ?_)
  refine i_aload (pc' := 188) K X1 at_186 rfl rfl rfl ?_
  obtain ⟨y4, g4, hf⟩ := bs hf
  obtain ⟨q3, g3, hf⟩ := bs hf
  refine callv (pc' := 191) (kc := cells) (ks := slots) (S' := [(.long q3.1)]) (st := []) K X1 (i1 := 42) rfl (i2 := 43) rfl (i5 := 45) (t := 10) rfl (i6 := 44) rfl (i3 := 7) rfl (i4 := 46) rfl (by decide) (by decide) g4 (rm7 (l := l) (n0 := n0) (K.2.2.2.2.2.2.2.2) A1 o10 g3) pd_7 rfl at_188 rfl rfl (by decide) (w := 0) (Nat.le_of_eq rfl) (by decide) (show cells + 0 ≤ 16 by omega) (show slots + 0 ≤ 128 by omega) rfl rfl rfl rfl (fun T3 X3 => ?_)
  refine i_lstore (pc' := 193) (Ls' := #[.val (.int i0), .val (.int i1), .val (.int i2), .val (.int i3), .val (.int i4), .val (.int i5), .val (.int i6), .val (.int i7), .val (.ref (n0 + o8)), .val (.int i9), .val (.ref (n0 + o10)), .val (.long j11), .second, .val (.long j13), .second, .val (.long j15), .second, .val (.long j17), .second, .val (.int i19), .val (.int i20), .val (.long q3.1), .second, .unset, .unset, .unset]) K X3 at_191 rfl rfl ?_
  refine i_aload (pc' := 195) K X3 at_193 rfl rfl rfl ?_
  obtain ⟨y6, g6, hf⟩ := bs hf
  obtain ⟨q5, g5, hf⟩ := bs hf
  refine callv (pc' := 198) (kc := cells) (ks := slots) (S' := [(.long q5.1)]) (st := []) K X3 (i1 := 47) rfl (i2 := 48) rfl (i5 := 50) (t := 10) rfl (i6 := 49) rfl (i3 := 7) rfl (i4 := 51) rfl (by decide) (by decide) g6 (rm8 (l := l) (n0 := n0) (K.2.2.2.2.2.2.2.2) q3.2 o10 g5) pd_8 rfl at_195 rfl rfl (by decide) (w := 0) (Nat.le_of_eq rfl) (by decide) (show cells + 0 ≤ 16 by omega) (show slots + 0 ≤ 128 by omega) rfl rfl rfl rfl (fun T5 X5 => ?_)
  refine i_lstore (pc' := 200) (Ls' := #[.val (.int i0), .val (.int i1), .val (.int i2), .val (.int i3), .val (.int i4), .val (.int i5), .val (.int i6), .val (.int i7), .val (.ref (n0 + o8)), .val (.int i9), .val (.ref (n0 + o10)), .val (.long j11), .second, .val (.long j13), .second, .val (.long j15), .second, .val (.long j17), .second, .val (.int i19), .val (.int i20), .val (.long q3.1), .second, .val (.long q5.1), .second, .unset]) K X5 at_198 rfl rfl ?_
  refine i_iload (pc' := 202) K X5 at_200 rfl rfl ?_
  refine i_bipush (pc' := 204) (v := (13 : Int32)) K X5 at_202 rfl rfl ?_
  by_cases hc204 : i9 = (13 : Int32)
  · rw [if_pos hc204] at hf
    refine i_icmpNo (pc' := 207) K X5 at_204 rfl (teq hc204).2 ?_
    refine i_lload (pc' := 209) K X5 at_207 rfl rfl ?_
    refine i_lload (pc' := 211) K X5 at_209 rfl rfl ?_
    refine i_lconst (pc' := 212) (v := (1 : Int64)) K X5 at_211 rfl rfl ?_
    refine i_ladd (pc' := 213) K X5 at_212 rfl ?_
    exact w0_213 K sep X5 i0 i1 i2 i3 i4 i5 i6 i7 o8 i9 o10 j11 j13 j15 j17 i19 i20 q3.1 q5.1 (j15 + (1 : Int64)) q3.1 (show cells + 0 ≤ 16 by omega) (show slots + 0 ≤ 128 by omega) hf
  · rw [if_neg hc204] at hf
    refine i_icmpYes (pc' := 234) K X5 at_204 (feq hc204).2 (by decide) (by decide) ?_
    refine i_iload (pc' := 236) K X5 at_234 rfl rfl ?_
    refine i_bipush (pc' := 238) (v := (10 : Int32)) K X5 at_236 rfl rfl ?_
    by_cases hc238 : i9 = (10 : Int32)
    · rw [if_pos hc238] at hf
      refine i_icmpNo (pc' := 241) K X5 at_238 rfl (teq hc238).2 ?_
      refine i_iload (pc' := 243) K X5 at_241 rfl rfl ?_
      by_cases hc243 : i19 = (0 : Int32)
      · rw [if_pos hc243] at hf
        refine i_ifYes (pc' := 273) K X5 at_243 (teq hc243).1 (by decide) (by decide) ?_
        exact w0_273 K sep X5 i0 i1 i2 i3 i4 i5 i6 i7 o8 i9 o10 j11 j13 j15 j17 i19 i20 q3.1 q5.1 (show cells + 0 ≤ 16 by omega) (show slots + 0 ≤ 128 by omega) hf
      · rw [if_neg hc243] at hf
        refine i_ifNo (pc' := 246) K X5 at_243 rfl (feq hc243).1 ?_
        exact w0_246 K sep X5 i0 i1 i2 i3 i4 i5 i6 i7 o8 i9 o10 j11 j13 j15 j17 i19 i20 q3.1 q5.1 (show cells + 0 ≤ 16 by omega) (show slots + 0 ≤ 128 by omega) hf
    · rw [if_neg hc238] at hf
      refine i_icmpYes (pc' := 308) K X5 at_238 (feq hc238).2 (by decide) (by decide) ?_
      refine i_lload (pc' := 310) K X5 at_308 rfl rfl ?_
      exact w0_310 K sep X5 i0 i1 i2 i3 i4 i5 i6 i7 o8 i9 o10 j11 j13 j15 j17 i19 i20 q3.1 q5.1 q3.1 (show cells + 0 ≤ 16 by omega) (show slots + 0 ≤ 128 by omega) hf
def f0_177 (A : AH) (i9 : Int32) (o10 : Nat) (j13 : Int64) (j15 : Int64) (i19 : Int32) (s0 : Int32) : Option (Int32 × AH) :=
  f0_179 A i9 o10 j13 j15 i19 s0
set_option maxRecDepth 65536 in
set_option maxHeartbeats 4000000 in
theorem w0_177 (K : Cx p l e room_1 s m meth c Z a0 tables_1 "com/example/runnel/runnel/io/LineCounterEndLastLinePinLaw" "law" code maxLocals ret) (sep : ∀ t, Sep Z (own_D t).2) (X : On p l e room_1 s m args below meth c own_D Z n0 T A cells slots) (i0 : Int32) (i1 : Int32) (i2 : Int32) (i3 : Int32) (i4 : Int32) (i5 : Int32) (i6 : Int32) (i7 : Int32) (o8 : Nat) (i9 : Int32) (o10 : Nat) (j11 : Int64) (j13 : Int64) (j15 : Int64) (j17 : Int64) (i19 : Int32) (s0 : Int32) (hc : cells + 0 ≤ 16) (hs : slots + 0 ≤ 128) {q : Int32 × AH} (hf : f0_177 A i9 o10 j13 j15 i19 s0 = some q) :
    Go p e below (T.setTop (mkF m 177 #[.val (.int i0), .val (.int i1), .val (.int i2), .val (.int i3), .val (.int i4), .val (.int i5), .val (.int i6), .val (.int i7), .val (.ref (n0 + o8)), .val (.int i9), .val (.ref (n0 + o10)), .val (.long j11), .second, .val (.long j13), .second, .val (.long j15), .second, .val (.long j17), .second, .val (.int i19), .unset, .unset, .unset, .unset, .unset, .unset] [(.int s0)])) (Fini own_D Z n0 s room_1 (some (.int q.1)) q.2) := by
  unfold f0_177 at hf
  refine i_istore (pc' := 179) (Ls' := #[.val (.int i0), .val (.int i1), .val (.int i2), .val (.int i3), .val (.int i4), .val (.int i5), .val (.int i6), .val (.int i7), .val (.ref (n0 + o8)), .val (.int i9), .val (.ref (n0 + o10)), .val (.long j11), .second, .val (.long j13), .second, .val (.long j15), .second, .val (.long j17), .second, .val (.int i19), .val (.int s0), .unset, .unset, .unset, .unset, .unset]) K X at_177 rfl rfl ?_
  exact w0_179 K sep X i0 i1 i2 i3 i4 i5 i6 i7 o8 i9 o10 j11 j13 j15 j17 i19 s0 (show cells + 0 ≤ 16 by omega) (show slots + 0 ≤ 128 by omega) hf
def f0_176 (A : AH) (i9 : Int32) (o10 : Nat) (j13 : Int64) (j15 : Int64) (i19 : Int32) : Option (Int32 × AH) :=
  f0_177 A i9 o10 j13 j15 i19 (0 : Int32)
set_option maxRecDepth 65536 in
set_option maxHeartbeats 4000000 in
theorem w0_176 (K : Cx p l e room_1 s m meth c Z a0 tables_1 "com/example/runnel/runnel/io/LineCounterEndLastLinePinLaw" "law" code maxLocals ret) (sep : ∀ t, Sep Z (own_D t).2) (X : On p l e room_1 s m args below meth c own_D Z n0 T A cells slots) (i0 : Int32) (i1 : Int32) (i2 : Int32) (i3 : Int32) (i4 : Int32) (i5 : Int32) (i6 : Int32) (i7 : Int32) (o8 : Nat) (i9 : Int32) (o10 : Nat) (j11 : Int64) (j13 : Int64) (j15 : Int64) (j17 : Int64) (i19 : Int32) (hc : cells + 0 ≤ 16) (hs : slots + 0 ≤ 128) {q : Int32 × AH} (hf : f0_176 A i9 o10 j13 j15 i19 = some q) :
    Go p e below (T.setTop (mkF m 176 #[.val (.int i0), .val (.int i1), .val (.int i2), .val (.int i3), .val (.int i4), .val (.int i5), .val (.int i6), .val (.int i7), .val (.ref (n0 + o8)), .val (.int i9), .val (.ref (n0 + o10)), .val (.long j11), .second, .val (.long j13), .second, .val (.long j15), .second, .val (.long j17), .second, .val (.int i19), .unset, .unset, .unset, .unset, .unset, .unset] [])) (Fini own_D Z n0 s room_1 (some (.int q.1)) q.2) := by
  unfold f0_176 at hf
  refine i_iconst (pc' := 177) (v := (0 : Int32)) K X at_176 rfl rfl ?_
  exact w0_177 K sep X i0 i1 i2 i3 i4 i5 i6 i7 o8 i9 o10 j11 j13 j15 j17 i19 (0 : Int32) (show cells + 0 ≤ 16 by omega) (show slots + 0 ≤ 128 by omega) hf
def f0_151 (A : AH) (i9 : Int32) (o10 : Nat) (j13 : Int64) (j15 : Int64) (i19 : Int32) (s0 : Int32) : Option (Int32 × AH) :=
  f0_179 A i9 o10 j13 j15 i19 s0
set_option maxRecDepth 65536 in
set_option maxHeartbeats 4000000 in
theorem w0_151 (K : Cx p l e room_1 s m meth c Z a0 tables_1 "com/example/runnel/runnel/io/LineCounterEndLastLinePinLaw" "law" code maxLocals ret) (sep : ∀ t, Sep Z (own_D t).2) (X : On p l e room_1 s m args below meth c own_D Z n0 T A cells slots) (i0 : Int32) (i1 : Int32) (i2 : Int32) (i3 : Int32) (i4 : Int32) (i5 : Int32) (i6 : Int32) (i7 : Int32) (o8 : Nat) (i9 : Int32) (o10 : Nat) (j11 : Int64) (j13 : Int64) (j15 : Int64) (j17 : Int64) (i19 : Int32) (s0 : Int32) (hc : cells + 0 ≤ 16) (hs : slots + 0 ≤ 128) {q : Int32 × AH} (hf : f0_151 A i9 o10 j13 j15 i19 s0 = some q) :
    Go p e below (T.setTop (mkF m 151 #[.val (.int i0), .val (.int i1), .val (.int i2), .val (.int i3), .val (.int i4), .val (.int i5), .val (.int i6), .val (.int i7), .val (.ref (n0 + o8)), .val (.int i9), .val (.ref (n0 + o10)), .val (.long j11), .second, .val (.long j13), .second, .val (.long j15), .second, .val (.long j17), .second, .val (.int i19), .unset, .unset, .unset, .unset, .unset, .unset] [(.int s0)])) (Fini own_D Z n0 s room_1 (some (.int q.1)) q.2) := by
  unfold f0_151 at hf
  refine i_istore (pc' := 153) (Ls' := #[.val (.int i0), .val (.int i1), .val (.int i2), .val (.int i3), .val (.int i4), .val (.int i5), .val (.int i6), .val (.int i7), .val (.ref (n0 + o8)), .val (.int i9), .val (.ref (n0 + o10)), .val (.long j11), .second, .val (.long j13), .second, .val (.long j15), .second, .val (.long j17), .second, .val (.int i19), .val (.int s0), .unset, .unset, .unset, .unset, .unset]) K X at_151 rfl rfl ?_
  refine i_goto (pc' := 179) K X at_153 (by decide) (by decide) ?_
  exact w0_179 K sep X i0 i1 i2 i3 i4 i5 i6 i7 o8 i9 o10 j11 j13 j15 j17 i19 s0 (show cells + 0 ≤ 16 by omega) (show slots + 0 ≤ 128 by omega) hf
def f0_150 (A : AH) (i9 : Int32) (o10 : Nat) (j13 : Int64) (j15 : Int64) (i19 : Int32) : Option (Int32 × AH) :=
  f0_151 A i9 o10 j13 j15 i19 (0 : Int32)
set_option maxRecDepth 65536 in
set_option maxHeartbeats 4000000 in
theorem w0_150 (K : Cx p l e room_1 s m meth c Z a0 tables_1 "com/example/runnel/runnel/io/LineCounterEndLastLinePinLaw" "law" code maxLocals ret) (sep : ∀ t, Sep Z (own_D t).2) (X : On p l e room_1 s m args below meth c own_D Z n0 T A cells slots) (i0 : Int32) (i1 : Int32) (i2 : Int32) (i3 : Int32) (i4 : Int32) (i5 : Int32) (i6 : Int32) (i7 : Int32) (o8 : Nat) (i9 : Int32) (o10 : Nat) (j11 : Int64) (j13 : Int64) (j15 : Int64) (j17 : Int64) (i19 : Int32) (hc : cells + 0 ≤ 16) (hs : slots + 0 ≤ 128) {q : Int32 × AH} (hf : f0_150 A i9 o10 j13 j15 i19 = some q) :
    Go p e below (T.setTop (mkF m 150 #[.val (.int i0), .val (.int i1), .val (.int i2), .val (.int i3), .val (.int i4), .val (.int i5), .val (.int i6), .val (.int i7), .val (.ref (n0 + o8)), .val (.int i9), .val (.ref (n0 + o10)), .val (.long j11), .second, .val (.long j13), .second, .val (.long j15), .second, .val (.long j17), .second, .val (.int i19), .unset, .unset, .unset, .unset, .unset, .unset] [])) (Fini own_D Z n0 s room_1 (some (.int q.1)) q.2) := by
  unfold f0_150 at hf
  refine i_iconst (pc' := 151) (v := (0 : Int32)) K X at_150 rfl rfl ?_
  exact w0_151 K sep X i0 i1 i2 i3 i4 i5 i6 i7 o8 i9 o10 j11 j13 j15 j17 i19 (0 : Int32) (show cells + 0 ≤ 16 by omega) (show slots + 0 ≤ 128 by omega) hf
def f0_122 (A : AH) (i9 : Int32) (o10 : Nat) (j11 : Int64) (j13 : Int64) (j15 : Int64) (j17 : Int64) (s0 : Int32) : Option (Int32 × AH) :=
  if s0 = (0 : Int32) then (if j15 = j11 then (if j17 = j13 then (f0_177 A i9 o10 j13 j15 s0 (1 : Int32))
  else (f0_176 A i9 o10 j13 j15 s0))
  else (f0_176 A i9 o10 j13 j15 s0))
  else (if j15 = (j11 + (1 : Int64)) then (if j17 = (0 : Int64) then (f0_151 A i9 o10 j13 j15 s0 (1 : Int32))
  else (f0_150 A i9 o10 j13 j15 s0))
  else (f0_150 A i9 o10 j13 j15 s0))
set_option maxRecDepth 65536 in
set_option maxHeartbeats 4000000 in
theorem w0_122 (K : Cx p l e room_1 s m meth c Z a0 tables_1 "com/example/runnel/runnel/io/LineCounterEndLastLinePinLaw" "law" code maxLocals ret) (sep : ∀ t, Sep Z (own_D t).2) (X : On p l e room_1 s m args below meth c own_D Z n0 T A cells slots) (i0 : Int32) (i1 : Int32) (i2 : Int32) (i3 : Int32) (i4 : Int32) (i5 : Int32) (i6 : Int32) (i7 : Int32) (o8 : Nat) (i9 : Int32) (o10 : Nat) (j11 : Int64) (j13 : Int64) (j15 : Int64) (j17 : Int64) (s0 : Int32) (hc : cells + 0 ≤ 16) (hs : slots + 0 ≤ 128) {q : Int32 × AH} (hf : f0_122 A i9 o10 j11 j13 j15 j17 s0 = some q) :
    Go p e below (T.setTop (mkF m 122 #[.val (.int i0), .val (.int i1), .val (.int i2), .val (.int i3), .val (.int i4), .val (.int i5), .val (.int i6), .val (.int i7), .val (.ref (n0 + o8)), .val (.int i9), .val (.ref (n0 + o10)), .val (.long j11), .second, .val (.long j13), .second, .val (.long j15), .second, .val (.long j17), .second, .unset, .unset, .unset, .unset, .unset, .unset, .unset] [(.int s0)])) (Fini own_D Z n0 s room_1 (some (.int q.1)) q.2) := by
  unfold f0_122 at hf
  refine i_istore (pc' := 124) (Ls' := #[.val (.int i0), .val (.int i1), .val (.int i2), .val (.int i3), .val (.int i4), .val (.int i5), .val (.int i6), .val (.int i7), .val (.ref (n0 + o8)), .val (.int i9), .val (.ref (n0 + o10)), .val (.long j11), .second, .val (.long j13), .second, .val (.long j15), .second, .val (.long j17), .second, .val (.int s0), .unset, .unset, .unset, .unset, .unset, .unset]) K X at_122 rfl rfl ?_
  refine i_iload (pc' := 126) K X at_124 rfl rfl ?_
  by_cases hc126 : s0 = (0 : Int32)
  · rw [if_pos hc126] at hf
    refine i_ifYes (pc' := 156) K X at_126 (teq hc126).1 (by decide) (by decide) ?_
    refine i_lload (pc' := 158) K X at_156 rfl rfl ?_
    refine i_lload (pc' := 160) K X at_158 rfl rfl ?_
    refine i_lcmp (pc' := 161) K X at_160 rfl ?_
    by_cases hc161 : j15 = j11
    · rw [if_pos hc161] at hf
      refine i_ifNo (pc' := 164) K X at_161 rfl (teq ((lw_eq _ _).mpr hc161)).2 ?_
      refine i_lload (pc' := 166) K X at_164 rfl rfl ?_
      refine i_lload (pc' := 168) K X at_166 rfl rfl ?_
      refine i_lcmp (pc' := 169) K X at_168 rfl ?_
      by_cases hc169 : j17 = j13
      · rw [if_pos hc169] at hf
        refine i_ifNo (pc' := 172) K X at_169 rfl (teq ((lw_eq _ _).mpr hc169)).2 ?_
        refine i_iconst (pc' := 173) (v := (1 : Int32)) K X at_172 rfl rfl ?_
        refine i_goto (pc' := 177) K X at_173 (by decide) (by decide) ?_
        exact w0_177 K sep X i0 i1 i2 i3 i4 i5 i6 i7 o8 i9 o10 j11 j13 j15 j17 s0 (1 : Int32) (show cells + 0 ≤ 16 by omega) (show slots + 0 ≤ 128 by omega) hf
      · rw [if_neg hc169] at hf
        refine i_ifYes (pc' := 176) K X at_169 (feq (fun z => hc169 ((lw_eq _ _).mp z))).2 (by decide) (by decide) ?_
        exact w0_176 K sep X i0 i1 i2 i3 i4 i5 i6 i7 o8 i9 o10 j11 j13 j15 j17 s0 (show cells + 0 ≤ 16 by omega) (show slots + 0 ≤ 128 by omega) hf
    · rw [if_neg hc161] at hf
      refine i_ifYes (pc' := 176) K X at_161 (feq (fun z => hc161 ((lw_eq _ _).mp z))).2 (by decide) (by decide) ?_
      exact w0_176 K sep X i0 i1 i2 i3 i4 i5 i6 i7 o8 i9 o10 j11 j13 j15 j17 s0 (show cells + 0 ≤ 16 by omega) (show slots + 0 ≤ 128 by omega) hf
  · rw [if_neg hc126] at hf
    refine i_ifNo (pc' := 129) K X at_126 rfl (feq hc126).1 ?_
    refine i_lload (pc' := 131) K X at_129 rfl rfl ?_
    refine i_lload (pc' := 133) K X at_131 rfl rfl ?_
    refine i_lconst (pc' := 134) (v := (1 : Int64)) K X at_133 rfl rfl ?_
    refine i_ladd (pc' := 135) K X at_134 rfl ?_
    refine i_lcmp (pc' := 136) K X at_135 rfl ?_
    by_cases hc136 : j15 = (j11 + (1 : Int64))
    · rw [if_pos hc136] at hf
      refine i_ifNo (pc' := 139) K X at_136 rfl (teq ((lw_eq _ _).mpr hc136)).2 ?_
      refine i_lload (pc' := 141) K X at_139 rfl rfl ?_
      refine i_lconst (pc' := 142) (v := (0 : Int64)) K X at_141 rfl rfl ?_
      refine i_lcmp (pc' := 143) K X at_142 rfl ?_
      by_cases hc143 : j17 = (0 : Int64)
      · rw [if_pos hc143] at hf
        refine i_ifNo (pc' := 146) K X at_143 rfl (teq ((lw_eq _ _).mpr hc143)).2 ?_
        refine i_iconst (pc' := 147) (v := (1 : Int32)) K X at_146 rfl rfl ?_
        refine i_goto (pc' := 151) K X at_147 (by decide) (by decide) ?_
        exact w0_151 K sep X i0 i1 i2 i3 i4 i5 i6 i7 o8 i9 o10 j11 j13 j15 j17 s0 (1 : Int32) (show cells + 0 ≤ 16 by omega) (show slots + 0 ≤ 128 by omega) hf
      · rw [if_neg hc143] at hf
        refine i_ifYes (pc' := 150) K X at_143 (feq (fun z => hc143 ((lw_eq _ _).mp z))).2 (by decide) (by decide) ?_
        exact w0_150 K sep X i0 i1 i2 i3 i4 i5 i6 i7 o8 i9 o10 j11 j13 j15 j17 s0 (show cells + 0 ≤ 16 by omega) (show slots + 0 ≤ 128 by omega) hf
    · rw [if_neg hc136] at hf
      refine i_ifYes (pc' := 150) K X at_136 (feq (fun z => hc136 ((lw_eq _ _).mp z))).2 (by decide) (by decide) ?_
      exact w0_150 K sep X i0 i1 i2 i3 i4 i5 i6 i7 o8 i9 o10 j11 j13 j15 j17 s0 (show cells + 0 ≤ 16 by omega) (show slots + 0 ≤ 128 by omega) hf
def f0_93 (A : AH) (i9 : Int32) (o10 : Nat) (j11 : Int64) (j13 : Int64) (r0 : Nat) : Option (Int32 × AH) :=
  (h_isA A 10 r0).bind fun y2 =>
  (f9_0 A r0).bind fun A1 =>
  (h_isA A1 10 o10).bind fun y4 =>
  (f7_0 A1 o10).bind fun q3 =>
  (h_isA q3.2 10 o10).bind fun y6 =>
  (f8_0 q3.2 o10).bind fun q5 =>
  if (0 : Int64) < j13 then (f0_122 q5.2 i9 o10 j11 j13 q3.1 q5.1 (1 : Int32))
  else (f0_122 q5.2 i9 o10 j11 j13 q3.1 q5.1 (0 : Int32))
set_option maxRecDepth 65536 in
set_option maxHeartbeats 4000000 in
theorem w0_93 (K : Cx p l e room_1 s m meth c Z a0 tables_1 "com/example/runnel/runnel/io/LineCounterEndLastLinePinLaw" "law" code maxLocals ret) (sep : ∀ t, Sep Z (own_D t).2) (X : On p l e room_1 s m args below meth c own_D Z n0 T A cells slots) (i0 : Int32) (i1 : Int32) (i2 : Int32) (i3 : Int32) (i4 : Int32) (i5 : Int32) (i6 : Int32) (i7 : Int32) (o8 : Nat) (i9 : Int32) (o10 : Nat) (j11 : Int64) (j13 : Int64) (r0 : Nat) (hc : cells + 0 ≤ 16) (hs : slots + 0 ≤ 128) {q : Int32 × AH} (hf : f0_93 A i9 o10 j11 j13 r0 = some q) :
    Go p e below (T.setTop (mkF m 93 #[.val (.int i0), .val (.int i1), .val (.int i2), .val (.int i3), .val (.int i4), .val (.int i5), .val (.int i6), .val (.int i7), .val (.ref (n0 + o8)), .val (.int i9), .val (.ref (n0 + o10)), .val (.long j11), .second, .val (.long j13), .second, .unset, .unset, .unset, .unset, .unset, .unset, .unset, .unset, .unset, .unset, .unset] [(.ref (n0 + r0))])) (Fini own_D Z n0 s room_1 (some (.int q.1)) q.2) := by
  unfold f0_93 at hf
  obtain ⟨y2, g2, hf⟩ := bs hf
  obtain ⟨A1, g1, hf⟩ := bs hf
  refine callv (pc' := 96) (kc := cells) (ks := slots) (S' := []) (st := []) K X (i1 := 54) rfl (i2 := 55) rfl (i5 := 57) (t := 10) rfl (i6 := 56) rfl (i3 := 7) rfl (i4 := 58) rfl (by decide) (by decide) g2 (rm9 (l := l) (n0 := n0) (K.2.2.2.2.2.2.2.2) A r0 g1) pd_9 rfl at_93 rfl rfl (by decide) (w := 0) (Nat.le_of_eq rfl) (by decide) (show cells + 0 ≤ 16 by omega) (show slots + 0 ≤ 128 by omega) rfl rfl rfl rfl (fun T1 X1 => ?_)
  refine i_aload (pc' := 98) K X1 at_96 rfl rfl rfl ?_
  obtain ⟨y4, g4, hf⟩ := bs hf
  obtain ⟨q3, g3, hf⟩ := bs hf
  refine callv (pc' := 101) (kc := cells) (ks := slots) (S' := [(.long q3.1)]) (st := []) K X1 (i1 := 42) rfl (i2 := 43) rfl (i5 := 45) (t := 10) rfl (i6 := 44) rfl (i3 := 7) rfl (i4 := 46) rfl (by decide) (by decide) g4 (rm7 (l := l) (n0 := n0) (K.2.2.2.2.2.2.2.2) A1 o10 g3) pd_7 rfl at_98 rfl rfl (by decide) (w := 0) (Nat.le_of_eq rfl) (by decide) (show cells + 0 ≤ 16 by omega) (show slots + 0 ≤ 128 by omega) rfl rfl rfl rfl (fun T3 X3 => ?_)
  refine i_lstore (pc' := 103) (Ls' := #[.val (.int i0), .val (.int i1), .val (.int i2), .val (.int i3), .val (.int i4), .val (.int i5), .val (.int i6), .val (.int i7), .val (.ref (n0 + o8)), .val (.int i9), .val (.ref (n0 + o10)), .val (.long j11), .second, .val (.long j13), .second, .val (.long q3.1), .second, .unset, .unset, .unset, .unset, .unset, .unset, .unset, .unset, .unset]) K X3 at_101 rfl rfl ?_
  refine i_aload (pc' := 105) K X3 at_103 rfl rfl rfl ?_
  obtain ⟨y6, g6, hf⟩ := bs hf
  obtain ⟨q5, g5, hf⟩ := bs hf
  refine callv (pc' := 108) (kc := cells) (ks := slots) (S' := [(.long q5.1)]) (st := []) K X3 (i1 := 47) rfl (i2 := 48) rfl (i5 := 50) (t := 10) rfl (i6 := 49) rfl (i3 := 7) rfl (i4 := 51) rfl (by decide) (by decide) g6 (rm8 (l := l) (n0 := n0) (K.2.2.2.2.2.2.2.2) q3.2 o10 g5) pd_8 rfl at_105 rfl rfl (by decide) (w := 0) (Nat.le_of_eq rfl) (by decide) (show cells + 0 ≤ 16 by omega) (show slots + 0 ≤ 128 by omega) rfl rfl rfl rfl (fun T5 X5 => ?_)
  refine i_lstore (pc' := 110) (Ls' := #[.val (.int i0), .val (.int i1), .val (.int i2), .val (.int i3), .val (.int i4), .val (.int i5), .val (.int i6), .val (.int i7), .val (.ref (n0 + o8)), .val (.int i9), .val (.ref (n0 + o10)), .val (.long j11), .second, .val (.long j13), .second, .val (.long q3.1), .second, .val (.long q5.1), .second, .unset, .unset, .unset, .unset, .unset, .unset, .unset]) K X5 at_108 rfl rfl ?_
  refine i_lload (pc' := 112) K X5 at_110 rfl rfl ?_
  refine i_lconst (pc' := 113) (v := (0 : Int64)) K X5 at_112 rfl rfl ?_
  refine i_lcmp (pc' := 114) K X5 at_113 rfl ?_
  by_cases hc114 : (0 : Int64) < j13
  · rw [if_pos hc114] at hf
    refine i_ifNo (pc' := 117) K X5 at_114 rfl (tlt ((lw_gt _ _).mpr hc114)).2.2.2 ?_
    refine i_iconst (pc' := 118) (v := (1 : Int32)) K X5 at_117 rfl rfl ?_
    refine i_goto (pc' := 122) K X5 at_118 (by decide) (by decide) ?_
    exact w0_122 K sep X5 i0 i1 i2 i3 i4 i5 i6 i7 o8 i9 o10 j11 j13 q3.1 q5.1 (1 : Int32) (show cells + 0 ≤ 16 by omega) (show slots + 0 ≤ 128 by omega) hf
  · rw [if_neg hc114] at hf
    refine i_ifYes (pc' := 121) K X5 at_114 (flt (fun z => hc114 ((lw_gt _ _).mp z))).2.2.2 (by decide) (by decide) ?_
    refine i_iconst (pc' := 122) (v := (0 : Int32)) K X5 at_121 rfl rfl ?_
    exact w0_122 K sep X5 i0 i1 i2 i3 i4 i5 i6 i7 o8 i9 o10 j11 j13 q3.1 q5.1 (0 : Int32) (show cells + 0 ≤ 16 by omega) (show slots + 0 ≤ 128 by omega) hf
def f0_59 (A : AH) (i6 : Int32) (i7 : Int32) (o8 : Nat) (i9 : Int32) (r0 : Nat) : Option (Int32 × AH) :=
  (f2_0 A r0 i6).bind fun A1 =>
  (h_isA A1 10 r0).bind fun y3 =>
  (f3_0 A1 r0 o8 (0 : Int32) i7).bind fun A2 =>
  (h_isA A2 10 r0).bind fun y5 =>
  (f7_0 A2 r0).bind fun q4 =>
  (h_isA q4.2 10 r0).bind fun y7 =>
  (f8_0 q4.2 r0).bind fun q6 =>
  f0_93 q6.2 i9 r0 q4.1 q6.1 r0
set_option maxRecDepth 65536 in
set_option maxHeartbeats 4000000 in
theorem w0_59 (K : Cx p l e room_1 s m meth c Z a0 tables_1 "com/example/runnel/runnel/io/LineCounterEndLastLinePinLaw" "law" code maxLocals ret) (sep : ∀ t, Sep Z (own_D t).2) (X : On p l e room_1 s m args below meth c own_D Z n0 T A cells slots) (i0 : Int32) (i1 : Int32) (i2 : Int32) (i3 : Int32) (i4 : Int32) (i5 : Int32) (i6 : Int32) (i7 : Int32) (o8 : Nat) (i9 : Int32) (r0 : Nat) (hc : cells + 2 ≤ 16) (hs : slots + 6 ≤ 128) {q : Int32 × AH} (hf : f0_59 A i6 i7 o8 i9 r0 = some q) :
    Go p e below (T.setTop (mkF m 59 #[.val (.int i0), .val (.int i1), .val (.int i2), .val (.int i3), .val (.int i4), .val (.int i5), .val (.int i6), .val (.int i7), .val (.ref (n0 + o8)), .val (.int i9), .unset, .unset, .unset, .unset, .unset, .unset, .unset, .unset, .unset, .unset, .unset, .unset, .unset, .unset, .unset, .unset] [(.ref (n0 + r0))])) (Fini own_D Z n0 s room_1 (some (.int q.1)) q.2) := by
  unfold f0_59 at hf
  refine i_dup (pc' := 60) K X at_59 rfl rfl ?_
  refine i_iload (pc' := 62) K X at_60 rfl rfl ?_
  obtain ⟨A1, g1, hf⟩ := bs hf
  refine calli (pc' := 65) (kc := cells + 2) (ks := slots + 6) (st := [(.ref (n0 + r0))]) K X (i1 := 8) rfl (i2 := 9) rfl (i3 := 7) rfl (i4 := 10) rfl rfl (by decide) (rm2 (l := l) (n0 := n0) (K.2.2.2.2.2.2.2.2) A r0 i6 g1) pd_2 rfl at_62 rfl rfl (by decide) (w := 1) (Nat.le_of_eq rfl) (by decide) (show cells + 2 ≤ 16 by omega) (show slots + 6 ≤ 128 by omega) rfl rfl rfl (fun T1 X1 => ?_)
  refine i_astore (pc' := 67) (Ls' := #[.val (.int i0), .val (.int i1), .val (.int i2), .val (.int i3), .val (.int i4), .val (.int i5), .val (.int i6), .val (.int i7), .val (.ref (n0 + o8)), .val (.int i9), .val (.ref (n0 + r0)), .unset, .unset, .unset, .unset, .unset, .unset, .unset, .unset, .unset, .unset, .unset, .unset, .unset, .unset, .unset]) K X1 at_65 rfl rfl rfl ?_
  refine i_aload (pc' := 69) K X1 at_67 rfl rfl rfl ?_
  refine i_aload (pc' := 71) K X1 at_69 rfl rfl rfl ?_
  refine i_iconst (pc' := 72) (v := (0 : Int32)) K X1 at_71 rfl rfl ?_
  refine i_iload (pc' := 74) K X1 at_72 rfl rfl ?_
  obtain ⟨y3, g3, hf⟩ := bs hf
  obtain ⟨A2, g2, hf⟩ := bs hf
  refine callv (pc' := 77) (kc := cells + 2) (ks := slots + 6) (S' := []) (st := []) K X1 (i1 := 22) rfl (i2 := 23) rfl (i5 := 25) (t := 10) rfl (i6 := 24) rfl (i3 := 7) rfl (i4 := 26) rfl (by decide) (by decide) g3 (rm3 (l := l) (n0 := n0) (K.2.2.2.2.2.2.2.2) A1 r0 o8 (0 : Int32) i7 g2) pd_3 rfl at_74 rfl rfl (by decide) (w := 0) (Nat.le_of_eq rfl) (by decide) (show cells + 2 + 0 ≤ 16 by omega) (show slots + 6 + 0 ≤ 128 by omega) rfl rfl rfl rfl (fun T2 X2 => ?_)
  refine i_aload (pc' := 79) K X2 at_77 rfl rfl rfl ?_
  obtain ⟨y5, g5, hf⟩ := bs hf
  obtain ⟨q4, g4, hf⟩ := bs hf
  refine callv (pc' := 82) (kc := cells + 2) (ks := slots + 6) (S' := [(.long q4.1)]) (st := []) K X2 (i1 := 42) rfl (i2 := 43) rfl (i5 := 45) (t := 10) rfl (i6 := 44) rfl (i3 := 7) rfl (i4 := 46) rfl (by decide) (by decide) g5 (rm7 (l := l) (n0 := n0) (K.2.2.2.2.2.2.2.2) A2 r0 g4) pd_7 rfl at_79 rfl rfl (by decide) (w := 0) (Nat.le_of_eq rfl) (by decide) (show cells + 2 + 0 ≤ 16 by omega) (show slots + 6 + 0 ≤ 128 by omega) rfl rfl rfl rfl (fun T4 X4 => ?_)
  refine i_lstore (pc' := 84) (Ls' := #[.val (.int i0), .val (.int i1), .val (.int i2), .val (.int i3), .val (.int i4), .val (.int i5), .val (.int i6), .val (.int i7), .val (.ref (n0 + o8)), .val (.int i9), .val (.ref (n0 + r0)), .val (.long q4.1), .second, .unset, .unset, .unset, .unset, .unset, .unset, .unset, .unset, .unset, .unset, .unset, .unset, .unset]) K X4 at_82 rfl rfl ?_
  refine i_aload (pc' := 86) K X4 at_84 rfl rfl rfl ?_
  obtain ⟨y7, g7, hf⟩ := bs hf
  obtain ⟨q6, g6, hf⟩ := bs hf
  refine callv (pc' := 89) (kc := cells + 2) (ks := slots + 6) (S' := [(.long q6.1)]) (st := []) K X4 (i1 := 47) rfl (i2 := 48) rfl (i5 := 50) (t := 10) rfl (i6 := 49) rfl (i3 := 7) rfl (i4 := 51) rfl (by decide) (by decide) g7 (rm8 (l := l) (n0 := n0) (K.2.2.2.2.2.2.2.2) q4.2 r0 g6) pd_8 rfl at_86 rfl rfl (by decide) (w := 0) (Nat.le_of_eq rfl) (by decide) (show cells + 2 + 0 ≤ 16 by omega) (show slots + 6 + 0 ≤ 128 by omega) rfl rfl rfl rfl (fun T6 X6 => ?_)
  refine i_lstore (pc' := 91) (Ls' := #[.val (.int i0), .val (.int i1), .val (.int i2), .val (.int i3), .val (.int i4), .val (.int i5), .val (.int i6), .val (.int i7), .val (.ref (n0 + o8)), .val (.int i9), .val (.ref (n0 + r0)), .val (.long q4.1), .second, .val (.long q6.1), .second, .unset, .unset, .unset, .unset, .unset, .unset, .unset, .unset, .unset, .unset, .unset]) K X6 at_89 rfl rfl ?_
  refine i_aload (pc' := 93) K X6 at_91 rfl rfl rfl ?_
  exact w0_93 K sep X6 i0 i1 i2 i3 i4 i5 i6 i7 o8 i9 r0 q4.1 q6.1 r0 (show cells + 2 + 0 ≤ 16 by omega) (show slots + 6 + 0 ≤ 128 by omega) hf
def f0_31 (A : AH) (i3 : Int32) (i4 : Int32) (i5 : Int32) (i6 : Int32) (i7 : Int32) (s0 : Int32) (s1 : Int32) (r2 : Nat) (r3 : Nat) : Option (Int32 × AH) :=
  (h_aset A 1 r2 s1 (.int (nar .char s0))).bind fun A1 =>
  (h_aset A1 1 r3 (2 : Int32) (.int (nar .char (f1_0 i3)))).bind fun A3 =>
  (h_aset A3 1 r3 (3 : Int32) (.int (nar .char (f1_0 i4)))).bind fun A5 =>
  (h_onew A5 10 own_ds10).bind fun q7 =>
  f0_59 q7.2 i6 i7 r3 (f1_0 i5) q7.1
set_option maxRecDepth 65536 in
set_option maxHeartbeats 4000000 in
theorem w0_31 (K : Cx p l e room_1 s m meth c Z a0 tables_1 "com/example/runnel/runnel/io/LineCounterEndLastLinePinLaw" "law" code maxLocals ret) (sep : ∀ t, Sep Z (own_D t).2) (X : On p l e room_1 s m args below meth c own_D Z n0 T A cells slots) (i0 : Int32) (i1 : Int32) (i2 : Int32) (i3 : Int32) (i4 : Int32) (i5 : Int32) (i6 : Int32) (i7 : Int32) (s0 : Int32) (s1 : Int32) (r2 : Nat) (r3 : Nat) (hc : cells + 3 ≤ 16) (hs : slots + 15 ≤ 128) {q : Int32 × AH} (hf : f0_31 A i3 i4 i5 i6 i7 s0 s1 r2 r3 = some q) :
    Go p e below (T.setTop (mkF m 31 #[.val (.int i0), .val (.int i1), .val (.int i2), .val (.int i3), .val (.int i4), .val (.int i5), .val (.int i6), .val (.int i7), .unset, .unset, .unset, .unset, .unset, .unset, .unset, .unset, .unset, .unset, .unset, .unset, .unset, .unset, .unset, .unset, .unset, .unset] [(.int s0), (.int s1), (.ref (n0 + r2)), (.ref (n0 + r3))])) (Fini own_D Z n0 s room_1 (some (.int q.1)) q.2) := by
  unfold f0_31 at hf
  obtain ⟨A1, g1, hf⟩ := bs hf
  refine ast1 (pc' := 32) K X g1 at_31 rfl (fun T1 X1 => ?_)
  refine i_dup (pc' := 33) K X1 at_32 rfl rfl ?_
  refine i_iconst (pc' := 34) (v := (2 : Int32)) K X1 at_33 rfl rfl ?_
  refine i_iloadN (pc' := 35) K X1 at_34 rfl rfl ?_
  refine calls (pc' := 38) (kc := cells) (ks := slots) (S' := [(.int (f1_0 i3)), (.int (2 : Int32)), (.ref (n0 + r3)), (.ref (n0 + r3))]) (st := [(.int (2 : Int32)), (.ref (n0 + r3)), (.ref (n0 + r3))]) K X1 (i1 := 1) rfl (i2 := 2) rfl (i3 := 3) rfl (i4 := 4) rfl (by decide) (rm1 (l := l) (n0 := n0) (K.2.2.2.2.2.2.2.2) A1 i3) pd_1 rfl at_35 rfl rfl (by decide) (w := 3) (Nat.le_of_eq rfl) (by decide) (show cells + 0 ≤ 16 by omega) (show slots + 0 ≤ 128 by omega) rfl rfl rfl rfl (fun T2 X2 => ?_)
  obtain ⟨A3, g3, hf⟩ := bs hf
  refine ast1 (pc' := 39) K X2 g3 at_38 rfl (fun T3 X3 => ?_)
  refine i_dup (pc' := 40) K X3 at_39 rfl rfl ?_
  refine i_iconst (pc' := 41) (v := (3 : Int32)) K X3 at_40 rfl rfl ?_
  refine i_iload (pc' := 43) K X3 at_41 rfl rfl ?_
  refine calls (pc' := 46) (kc := cells) (ks := slots) (S' := [(.int (f1_0 i4)), (.int (3 : Int32)), (.ref (n0 + r3)), (.ref (n0 + r3))]) (st := [(.int (3 : Int32)), (.ref (n0 + r3)), (.ref (n0 + r3))]) K X3 (i1 := 1) rfl (i2 := 2) rfl (i3 := 3) rfl (i4 := 4) rfl (by decide) (rm1 (l := l) (n0 := n0) (K.2.2.2.2.2.2.2.2) A3 i4) pd_1 rfl at_43 rfl rfl (by decide) (w := 3) (Nat.le_of_eq rfl) (by decide) (show cells + 0 ≤ 16 by omega) (show slots + 0 ≤ 128 by omega) rfl rfl rfl rfl (fun T4 X4 => ?_)
  obtain ⟨A5, g5, hf⟩ := bs hf
  refine ast1 (pc' := 47) K X4 g5 at_46 rfl (fun T5 X5 => ?_)
  refine i_astore (pc' := 49) (Ls' := #[.val (.int i0), .val (.int i1), .val (.int i2), .val (.int i3), .val (.int i4), .val (.int i5), .val (.int i6), .val (.int i7), .val (.ref (n0 + r3)), .unset, .unset, .unset, .unset, .unset, .unset, .unset, .unset, .unset, .unset, .unset, .unset, .unset, .unset, .unset, .unset, .unset]) K X5 at_47 rfl rfl rfl ?_
  refine i_iload (pc' := 51) K X5 at_49 rfl rfl ?_
  refine calls (pc' := 54) (kc := cells) (ks := slots) (S' := [(.int (f1_0 i5))]) (st := []) K X5 (i1 := 1) rfl (i2 := 2) rfl (i3 := 3) rfl (i4 := 4) rfl (by decide) (rm1 (l := l) (n0 := n0) (K.2.2.2.2.2.2.2.2) A5 i5) pd_1 rfl at_51 rfl rfl (by decide) (w := 0) (Nat.le_of_eq rfl) (by decide) (show cells + 0 ≤ 16 by omega) (show slots + 0 ≤ 128 by omega) rfl rfl rfl rfl (fun T6 X6 => ?_)
  refine i_istore (pc' := 56) (Ls' := #[.val (.int i0), .val (.int i1), .val (.int i2), .val (.int i3), .val (.int i4), .val (.int i5), .val (.int i6), .val (.int i7), .val (.ref (n0 + r3)), .val (.int (f1_0 i5)), .unset, .unset, .unset, .unset, .unset, .unset, .unset, .unset, .unset, .unset, .unset, .unset, .unset, .unset, .unset, .unset]) K X6 at_54 rfl rfl ?_
  obtain ⟨q7, g7, hf⟩ := bs hf
  refine newo (pc' := 59) K X6 (i1 := 5) rfl (i2 := 6) rfl (i3 := 7) rfl at_56 (show cells + 1 ≤ 16 by omega) (show slots + 9 ≤ 128 by omega) (t := 10) (by decide) (own_dsL10 K) g7 rfl (fun T7 X7 => ?_)
  exact w0_59 K sep X7 i0 i1 i2 i3 i4 i5 i6 i7 r3 (f1_0 i5) q7.1 (show cells + 1 + 2 ≤ 16 by omega) (show slots + 9 + 6 ≤ 128 by omega) hf
def f0_8 (A : AH) (i1 : Int32) (i2 : Int32) (i3 : Int32) (i4 : Int32) (i5 : Int32) (i6 : Int32) (s0 : Int32) : Option (Int32 × AH) :=
  (h_anew A 1 4 (4 : Int32) (.int 0)).bind fun q1 =>
  (h_aset q1.2 1 q1.1 (0 : Int32) (.int (nar .char (f1_0 i1)))).bind fun A3 =>
  f0_31 A3 i3 i4 i5 i6 ((s0 &&& (7 : Int32)) % (5 : Int32)) (f1_0 i2) (1 : Int32) q1.1 q1.1
set_option maxRecDepth 65536 in
set_option maxHeartbeats 4000000 in
theorem w0_8 (K : Cx p l e room_1 s m meth c Z a0 tables_1 "com/example/runnel/runnel/io/LineCounterEndLastLinePinLaw" "law" code maxLocals ret) (sep : ∀ t, Sep Z (own_D t).2) (X : On p l e room_1 s m args below meth c own_D Z n0 T A cells slots) (i0 : Int32) (i1 : Int32) (i2 : Int32) (i3 : Int32) (i4 : Int32) (i5 : Int32) (i6 : Int32) (s0 : Int32) (hc : cells + 4 ≤ 16) (hs : slots + 19 ≤ 128) {q : Int32 × AH} (hf : f0_8 A i1 i2 i3 i4 i5 i6 s0 = some q) :
    Go p e below (T.setTop (mkF m 8 #[.val (.int i0), .val (.int i1), .val (.int i2), .val (.int i3), .val (.int i4), .val (.int i5), .val (.int i6), .unset, .unset, .unset, .unset, .unset, .unset, .unset, .unset, .unset, .unset, .unset, .unset, .unset, .unset, .unset, .unset, .unset, .unset, .unset] [(.int s0)])) (Fini own_D Z n0 s room_1 (some (.int q.1)) q.2) := by
  unfold f0_8 at hf
  refine i_bipush (pc' := 10) (v := (7 : Int32)) K X at_8 rfl rfl ?_
  refine i_iand (pc' := 11) K X at_10 rfl ?_
  refine i_iconst (pc' := 12) (v := (5 : Int32)) K X at_11 rfl rfl ?_
  refine i_irem (pc' := 13) K X at_12 rfl (by decide) ?_
  refine i_istore (pc' := 15) (Ls' := #[.val (.int i0), .val (.int i1), .val (.int i2), .val (.int i3), .val (.int i4), .val (.int i5), .val (.int i6), .val (.int ((s0 &&& (7 : Int32)) % (5 : Int32))), .unset, .unset, .unset, .unset, .unset, .unset, .unset, .unset, .unset, .unset, .unset, .unset, .unset, .unset, .unset, .unset, .unset, .unset]) K X at_13 rfl rfl ?_
  refine i_iconst (pc' := 16) (v := (4 : Int32)) K X at_15 rfl rfl ?_
  obtain ⟨q1, g1, hf⟩ := bs hf
  refine newa (pc' := 18) K X (i1 := 0) (at' := .char) rfl at_16 (t := 1) (cap := 4) (by decide) (show cells + 1 ≤ 16 by omega) (show slots + 4 ≤ 128 by omega) (by decide) rfl rfl g1 rfl (fun T1 X1 => ?_)
  refine i_dup (pc' := 19) K X1 at_18 rfl rfl ?_
  refine i_iconst (pc' := 20) (v := (0 : Int32)) K X1 at_19 rfl rfl ?_
  refine i_iloadN (pc' := 21) K X1 at_20 rfl rfl ?_
  refine calls (pc' := 24) (kc := cells + 1) (ks := slots + 4) (S' := [(.int (f1_0 i1)), (.int (0 : Int32)), (.ref (n0 + q1.1)), (.ref (n0 + q1.1))]) (st := [(.int (0 : Int32)), (.ref (n0 + q1.1)), (.ref (n0 + q1.1))]) K X1 (i1 := 1) rfl (i2 := 2) rfl (i3 := 3) rfl (i4 := 4) rfl (by decide) (rm1 (l := l) (n0 := n0) (K.2.2.2.2.2.2.2.2) q1.2 i1) pd_1 rfl at_21 rfl rfl (by decide) (w := 3) (Nat.le_of_eq rfl) (by decide) (show cells + 1 + 0 ≤ 16 by omega) (show slots + 4 + 0 ≤ 128 by omega) rfl rfl rfl rfl (fun T2 X2 => ?_)
  obtain ⟨A3, g3, hf⟩ := bs hf
  refine ast1 (pc' := 25) K X2 g3 at_24 rfl (fun T3 X3 => ?_)
  refine i_dup (pc' := 26) K X3 at_25 rfl rfl ?_
  refine i_iconst (pc' := 27) (v := (1 : Int32)) K X3 at_26 rfl rfl ?_
  refine i_iloadN (pc' := 28) K X3 at_27 rfl rfl ?_
  refine calls (pc' := 31) (kc := cells + 1) (ks := slots + 4) (S' := [(.int (f1_0 i2)), (.int (1 : Int32)), (.ref (n0 + q1.1)), (.ref (n0 + q1.1))]) (st := [(.int (1 : Int32)), (.ref (n0 + q1.1)), (.ref (n0 + q1.1))]) K X3 (i1 := 1) rfl (i2 := 2) rfl (i3 := 3) rfl (i4 := 4) rfl (by decide) (rm1 (l := l) (n0 := n0) (K.2.2.2.2.2.2.2.2) A3 i2) pd_1 rfl at_28 rfl rfl (by decide) (w := 3) (Nat.le_of_eq rfl) (by decide) (show cells + 1 + 0 ≤ 16 by omega) (show slots + 4 + 0 ≤ 128 by omega) rfl rfl rfl rfl (fun T4 X4 => ?_)
  exact w0_31 K sep X4 i0 i1 i2 i3 i4 i5 i6 ((s0 &&& (7 : Int32)) % (5 : Int32)) (f1_0 i2) (1 : Int32) q1.1 q1.1 (show cells + 1 + 3 ≤ 16 by omega) (show slots + 4 + 15 ≤ 128 by omega) hf
def f0_0 (A : AH) (i0 : Int32) (i1 : Int32) (i2 : Int32) (i3 : Int32) (i4 : Int32) (i5 : Int32) : Option (Int32 × AH) :=
  f0_8 A i1 i2 i3 i4 i5 (i0 &&& (3 : Int32)) (((i0).toUInt32 >>> ((2 : Int32) &&& 31).toUInt32).toInt32)
set_option maxRecDepth 65536 in
set_option maxHeartbeats 4000000 in
theorem w0_0 (K : Cx p l e room_1 s m meth c Z a0 tables_1 "com/example/runnel/runnel/io/LineCounterEndLastLinePinLaw" "law" code maxLocals ret) (sep : ∀ t, Sep Z (own_D t).2) (X : On p l e room_1 s m args below meth c own_D Z n0 T A cells slots) (i0 : Int32) (i1 : Int32) (i2 : Int32) (i3 : Int32) (i4 : Int32) (i5 : Int32) (hc : cells + 4 ≤ 16) (hs : slots + 19 ≤ 128) {q : Int32 × AH} (hf : f0_0 A i0 i1 i2 i3 i4 i5 = some q) :
    Go p e below (T.setTop (mkF m 0 #[.val (.int i0), .val (.int i1), .val (.int i2), .val (.int i3), .val (.int i4), .val (.int i5), .unset, .unset, .unset, .unset, .unset, .unset, .unset, .unset, .unset, .unset, .unset, .unset, .unset, .unset, .unset, .unset, .unset, .unset, .unset, .unset] [])) (Fini own_D Z n0 s room_1 (some (.int q.1)) q.2) := by
  unfold f0_0 at hf
  refine i_iloadN (pc' := 1) K X at_0 rfl rfl ?_
  refine i_iconst (pc' := 2) (v := (3 : Int32)) K X at_1 rfl rfl ?_
  refine i_iand (pc' := 3) K X at_2 rfl ?_
  refine i_istore (pc' := 5) (Ls' := #[.val (.int i0), .val (.int i1), .val (.int i2), .val (.int i3), .val (.int i4), .val (.int i5), .val (.int (i0 &&& (3 : Int32))), .unset, .unset, .unset, .unset, .unset, .unset, .unset, .unset, .unset, .unset, .unset, .unset, .unset, .unset, .unset, .unset, .unset, .unset, .unset]) K X at_3 rfl rfl ?_
  refine i_iloadN (pc' := 6) K X at_5 rfl rfl ?_
  refine i_iconst (pc' := 7) (v := (2 : Int32)) K X at_6 rfl rfl ?_
  refine i_iushr (pc' := 8) K X at_7 rfl ?_
  exact w0_8 K sep X i0 i1 i2 i3 i4 i5 (i0 &&& (3 : Int32)) (((i0).toUInt32 >>> ((2 : Int32) &&& 31).toUInt32).toInt32) (show cells + 4 ≤ 16 by omega) (show slots + 19 ≤ 128 by omega) hf
theorem pn_0 : plainName "com/example/runnel/runnel/io/LineCounterEndLastLinePinLaw" = true := by first | (simp [plainName, overriddenIn]; done) | decide +kernel
theorem rm0 {l : Launch} {Z : State} {a0 : Array Value} {n0 : Nat} (hw : ∀ d ∈ tables_1, d.before a0 Z = true) (A : AH) (i0 : Int32) (i1 : Int32) (i2 : Int32) (i3 : Int32) (i4 : Int32) (i5 : Int32) {q : Int32 × AH} (hf : f0_0 A i0 i1 i2 i3 i4 i5 = some q) :
    Met l own_D Z n0 x code maxLocals ret room_1 [(.int i0), (.int i1), (.int i2), (.int i3), (.int i4), (.int i5)] A (some (.int q.1)) q.2 :=
  met (W := tables_1) (a0 := a0) (own := "com/example/runnel/runnel/io/LineCounterEndLastLinePinLaw") (nm := "law") (L0 := #[.val (.int i0), .val (.int i1), .val (.int i2), .val (.int i3), .val (.int i4), .val (.int i5), .unset, .unset, .unset, .unset, .unset, .unset, .unset, .unset, .unset, .unset, .unset, .unset, .unset, .unset, .unset, .unset, .unset, .unset, .unset, .unset]) (plainFor_of_name pn_0) hw rfl rfl (fun m => by first | (simp [entryFrame, mkF, argsToLocals, Value.category, maxLocals]; done) | rfl) (fun p e s m below meth c T K X => w0_0 K (own_sep hw) X i0 i1 i2 i3 i4 i5 (show 0 + 4 ≤ 16 by decide) (show 0 + 19 ≤ 128 by decide) hf)
end OwnWalk
/-! the plain law -/
def own_C (a b c d : Int32) : List Value := [.int a, .int b, .int c, .int d]
def own_S (cs L C : List Value) (line col : Int64) (acr pos cnt : Int32) : AH := [(1, cs), (10, [.long (-1 : Int64), .ref 2, .ref 3, .long line, .long col, .int acr, .int pos, .int cnt, .long 0]), (3, L), (3, C)]
section
variable (cs L C : List Value) (line col : Int64) (acr pos cnt : Int32)
theorem own_is : h_isA (own_S cs L C line col acr pos cnt) 10 1 = some () := rfl
theorem own_g0 : h_fget (own_S cs L C line col acr pos cnt) 10 1 0 = some (.long (-1 : Int64)) := rfl
theorem own_g1 : h_fget (own_S cs L C line col acr pos cnt) 10 1 1 = some (.ref 2) := rfl
theorem own_g2 : h_fget (own_S cs L C line col acr pos cnt) 10 1 2 = some (.ref 3) := rfl
theorem own_g3 : h_fget (own_S cs L C line col acr pos cnt) 10 1 3 = some (.long line) := rfl
theorem own_g4 : h_fget (own_S cs L C line col acr pos cnt) 10 1 4 = some (.long col) := rfl
theorem own_g5 : h_fget (own_S cs L C line col acr pos cnt) 10 1 5 = some (.int acr) := rfl
theorem own_g6 : h_fget (own_S cs L C line col acr pos cnt) 10 1 6 = some (.int pos) := rfl
theorem own_g7 : h_fget (own_S cs L C line col acr pos cnt) 10 1 7 = some (.int cnt) := rfl
theorem own_s3 (v : Int64) : h_fset (own_S cs L C line col acr pos cnt) 10 1 3 (.long v) = some (own_S cs L C v col acr pos cnt) := rfl
theorem own_s4 (v : Int64) : h_fset (own_S cs L C line col acr pos cnt) 10 1 4 (.long v) = some (own_S cs L C line v acr pos cnt) := rfl
theorem own_s5 (v : Int32) : h_fset (own_S cs L C line col acr pos cnt) 10 1 5 (.int v) = some (own_S cs L C line col v pos cnt) := rfl
theorem own_s6 (v : Int32) : h_fset (own_S cs L C line col acr pos cnt) 10 1 6 (.int v) = some (own_S cs L C line col acr v cnt) := rfl
theorem own_s7 (v : Int32) : h_fset (own_S cs L C line col acr pos cnt) 10 1 7 (.int v) = some (own_S cs L C line col acr pos v) := rfl
theorem own_len : h_alen (own_S cs L C line col acr pos cnt) 3 3 = some C.length.toInt32 := rfl
theorem own_wL (v : Value) (j : Int32) (h0 : 0 ≤ j.toInt) (h1 : j.toInt < L.length) : h_aset (own_S cs L C line col acr pos cnt) 3 2 j v = some (own_S cs (L.set j.toInt.toNat v) C line col acr pos cnt) := aset_ok rfl h0 h1
theorem own_wC (v : Value) (j : Int32) (h0 : 0 ≤ j.toInt) (h1 : j.toInt < C.length) : h_aset (own_S cs L C line col acr pos cnt) 3 3 j v = some (own_S cs L (C.set j.toInt.toNat v) line col acr pos cnt) := aset_ok rfl h0 h1
theorem own_7 : f7_0 (own_S cs L C line col acr pos cnt) 1 = some (line, own_S cs L C line col acr pos cnt) := rfl
theorem own_8 : f8_0 (own_S cs L C line col acr pos cnt) 1 = some (col, own_S cs L C line col acr pos cnt) := rfl
end
theorem own_asI (x : Int32) : asI (some (.int x)) = some x := rfl
theorem own_asJ (x : Int64) : asJ (some (.long x)) = some x := rfl
theorem own_asR (x : Nat) : asR (some (.ref x)) = some x := rfl
theorem own_dd (d : Nat) (h : d ≤ 3) : (d.toInt32).toInt = d := by
  have : d = 0 ∨ d = 1 ∨ d = 2 ∨ d = 3 := by omega
  rcases this with rfl | rfl | rfl | rfl <;> decide
def own_at (a b c d j : Int32) : Int32 := if j = 0 then a else if j = 1 then b else if j = 2 then c else d
theorem own_rd (a b c d j : Int32) (L C : List Value) (line col : Int64) (acr pos cnt : Int32) (h0 : 0 ≤ j.toInt) (h1 : j.toInt < 4) : asI (h_aget (own_S (own_C a b c d) L C line col acr pos cnt) 1 0 j) = some (own_at a b c d j) := by
  have : j.toInt = 0 ∨ j.toInt = 1 ∨ j.toInt = 2 ∨ j.toInt = 3 := by omega
  rcases this with g | g | g | g
  · obtain rfl : j = 0 := Int32.toInt_inj.mp (by rw [g]; decide)
    rfl
  · obtain rfl : j = 1 := Int32.toInt_inj.mp (by rw [g]; decide)
    rfl
  · obtain rfl : j = 2 := Int32.toInt_inj.mp (by rw [g]; decide)
    rfl
  · obtain rfl : j = 3 := Int32.toInt_inj.mp (by rw [g]; decide)
    rfl
theorem own_14 (cs L C : List Value) (line col : Int64) (acr pos cnt : Int32) : f14_0 (own_S cs L C line col acr pos cnt) 1 = some (own_S cs L C line col acr pos cnt) := by
  unfold f14_0 f14_88
  rw [own_g0, own_asJ, Option.bind_some, if_pos (by decide)]
/-- the ring is written: only the rings, the place and the count turn -/
theorem own_67 (cs L C : List Value) (line col : Int64) (acr pos cnt : Int32) : ∃ cnt', f13_67 (own_S cs L C line col acr pos cnt) 1 = some (own_S cs L C line col acr pos cnt') := by
  unfold f13_67 f13_89
  rw [own_g7, own_asI, Option.bind_some, own_g2, own_asR, Option.bind_some, own_len, Option.bind_some]
  by_cases c : cnt < C.length.toInt32
  · rw [if_pos c, Option.bind_some, own_s7, Option.bind_some]
    exact ⟨_, rfl⟩
  · rw [if_neg c]
    exact ⟨_, rfl⟩
theorem own_42 (cs L C : List Value) (line col u : Int64) (acr pos cnt : Int32) (d : Nat) (hd : d ≤ 3) (hC : C.length = d) (p0 : 0 ≤ pos.toInt) (p1 : pos.toInt < d) :
    ∃ C' pos' cnt', f13_42 (own_S cs L C line col acr pos cnt) 1 u pos 3 = some (own_S cs L C' line col acr pos' cnt') ∧ C'.length = d ∧ 0 ≤ pos'.toInt ∧ pos'.toInt < d := by
  have hC' : (C.set pos.toInt.toNat (.long u)).length = d := by rw [List.length_set]; exact hC
  have dd := own_dd d hd
  have a1 := c_iadd pos 1
  rw [show (1 : Int32).toInt = 1 from by decide] at a1
  have r1 := rng32 (pos + 1)
  unfold f13_42
  rw [own_wC _ _ _ _ _ _ _ _ _ _ p0 (by omega), Option.bind_some, own_g6, own_asI, Option.bind_some, own_s6, Option.bind_some, own_g2, own_asR, Option.bind_some, own_len, Option.bind_some, hC']
  by_cases c : pos + 1 = d.toInt32
  · rw [if_pos c, own_s6, Option.bind_some]
    obtain ⟨cnt', e⟩ := own_67 cs L (C.set pos.toInt.toNat (.long u)) line col acr 0 cnt
    exact ⟨_, _, _, e, hC', by decide, by show (0 : Int) < d; omega⟩
  · rw [if_neg c]
    obtain ⟨cnt', e⟩ := own_67 cs L (C.set pos.toInt.toNat (.long u)) line col acr (pos + 1) cnt
    have c' : (pos + 1).toInt ≠ d := fun q => c (Int32.toInt_inj.mp (by rw [q, dd]))
    exact ⟨_, _, _, e, hC', by omega, by omega⟩
theorem own_13 (cs L C : List Value) (line col : Int64) (acr pos cnt : Int32) (d : Nat) (hd : d ≤ 3) (hL : L.length = d) (hC : C.length = d) (p0 : 0 ≤ pos.toInt) (p1 : pos.toInt < d) :
    ∃ L' C' pos' cnt', f13_0 (own_S cs L C line col acr pos cnt) 1 = some (own_S cs L' C' line col acr pos' cnt') ∧ L'.length = d ∧ C'.length = d ∧ 0 ≤ pos'.toInt ∧ pos'.toInt < d := by
  have hL' : (L.set pos.toInt.toNat (.long line)).length = d := by rw [List.length_set]; exact hL
  unfold f13_0
  rw [own_is, Option.bind_some, own_14, Option.bind_some, own_g1, own_asR, Option.bind_some, own_g6, own_asI, Option.bind_some, own_g3, own_asJ, Option.bind_some, own_wL _ _ _ _ _ _ _ _ _ _ p0 (by omega), Option.bind_some, own_g2, own_asR, Option.bind_some, own_g6, own_asI, Option.bind_some, own_g5, own_asI, Option.bind_some]
  by_cases c : acr = 0
  · rw [if_pos c]
    unfold f13_38
    rw [own_g4, own_asJ, Option.bind_some]
    obtain ⟨C', pos', cnt', e, e1, e2, e3⟩ := own_42 cs (L.set pos.toInt.toNat (.long line)) C line col col acr pos cnt d hd hC p0 p1
    exact ⟨_, _, _, _, e, hL', e1, e2, e3⟩
  · rw [if_neg c]
    unfold f13_32
    obtain ⟨C', pos', cnt', e, e1, e2, e3⟩ := own_42 cs (L.set pos.toInt.toNat (.long line)) C line col (-1 : Int64) acr pos cnt d hd hC p0 p1
    exact ⟨_, _, _, _, e, hL', e1, e2, e3⟩
/-- one sign is counted -/
def own_l (v : Int32) (line : Int64) (acr : Int32) : Int64 := if v = 13 then line + 1 else if v = 10 then (if acr = 0 then line + 1 else line) else line
def own_k (v : Int32) (col : Int64) (acr : Int32) : Int64 := if v = 13 then 0 else if v = 10 then (if acr = 0 then 0 else col) else col + 1
def own_a (v : Int32) : Int32 := if v = 13 then 1 else 0
theorem own_53 (cs L C : List Value) (line col : Int64) (acr pos cnt v : Int32) : f11_53 (own_S cs L C line col acr pos cnt) 1 v = some (own_S cs L C line col (own_a v) pos cnt) := by
  unfold f11_53 f11_65 own_a
  by_cases c : v = 13
  · rw [if_pos c, if_pos c, nar1, own_s5, Option.bind_some]
  · rw [if_neg c, if_neg c, nar0, own_s5, Option.bind_some]
theorem own_19 (cs L C : List Value) (line col : Int64) (acr pos cnt v : Int32) : f11_19 (own_S cs L C line col acr pos cnt) 1 v = some (own_S cs L C (line + 1) 0 (own_a v) pos cnt) := by
  unfold f11_19
  rw [own_g3, own_asJ, Option.bind_some, own_s3, Option.bind_some, own_s4, Option.bind_some, own_53]
theorem own_11 (cs L C : List Value) (line col : Int64) (acr pos cnt v : Int32) : f11_0 (own_S cs L C line col acr pos cnt) 1 v = some (own_S cs L C (own_l v line acr) (own_k v col acr) (own_a v) pos cnt) := by
  by_cases c : v = 13
  · have e1 : own_l v line acr = line + 1 := if_pos c
    have e2 : own_k v col acr = 0 := if_pos c
    rw [e1, e2]
    unfold f11_0
    rw [if_pos c, own_19]
  · by_cases d : v = 10
    · by_cases e : acr = 0
      · have e1 : own_l v line acr = line + 1 := by unfold own_l; rw [if_neg c, if_pos d, if_pos e]
        have e2 : own_k v col acr = 0 := by unfold own_k; rw [if_neg c, if_pos d, if_pos e]
        rw [e1, e2]
        unfold f11_0
        rw [if_neg c, if_pos d, own_g5, own_asI, Option.bind_some, if_pos e, own_19]
      · have e1 : own_l v line acr = line := by unfold own_l; rw [if_neg c, if_pos d, if_neg e]
        have e2 : own_k v col acr = col := by unfold own_k; rw [if_neg c, if_pos d, if_neg e]
        rw [e1, e2]
        unfold f11_0
        rw [if_neg c, if_pos d, own_g5, own_asI, Option.bind_some, if_neg e]
        unfold f11_37
        rw [if_pos d, own_53]
    · have e1 : own_l v line acr = line := by unfold own_l; rw [if_neg c, if_neg d]
      have e2 : own_k v col acr = col + 1 := by unfold own_k; rw [if_neg c, if_neg d]
      rw [e1, e2]
      unfold f11_0
      rw [if_neg c, if_neg d]
      unfold f11_37
      rw [if_neg d, own_g4, own_asJ, Option.bind_some, own_s4, Option.bind_some, own_53]
/-- what holds of the counter: a column that isn't negative, and 0 behind a carriage return -/
theorem own_inv (col : Int64) (acr v : Int32) (B : Int) (hB : B ≤ 100) (h0 : 0 ≤ col.toInt) (h1 : col.toInt ≤ B) : 0 ≤ (own_k v col acr).toInt ∧ (own_k v col acr).toInt ≤ B + 1 ∧ (own_a v ≠ 0 → own_k v col acr = 0) := by
  by_cases c : v = 13
  · have e2 : own_k v col acr = 0 := if_pos c
    rw [e2]
    exact ⟨by decide, by show (0 : Int) ≤ _; omega, fun _ => rfl⟩
  · have e3 : own_a v = 0 := if_neg c
    refine ⟨?_, ?_, fun q => absurd e3 q⟩
    all_goals unfold own_k
    all_goals rw [if_neg c]
    all_goals by_cases d : v = 10
    all_goals first | rw [if_pos d] | rw [if_neg d]
    · by_cases e : acr = 0
      · rw [if_pos e]; decide
      · rw [if_neg e]; exact h0
    · have a1 := c_ladd col 1
      rw [show (1 : Int64).toInt = 1 from by decide] at a1
      have r1 := rng64 (col + 1)
      omega
    · by_cases e : acr = 0
      · rw [if_pos e]; show (0 : Int) ≤ _; omega
      · rw [if_neg e]; omega
    · have a1 := c_ladd col 1
      rw [show (1 : Int64).toInt = 1 from by decide] at a1
      have r1 := rng64 (col + 1)
      omega
theorem own_61 (rec12 : AH → Nat → Nat → Int32 → Int32 → Int64 → Int32 → Int32 → Option (AH)) (A : AH) (o0 o1 : Nat) (i2 i3 : Int32) (j4 : Int64) (i7 i8 s0 : Int32) : ∃ j', f6_61 rec12 A o0 o1 i2 i3 j4 i7 i8 s0 = rec12 A o0 o1 i2 i3 j' (i7 + 1) (i7 + 1) := by
  unfold f6_61 f6_75 f6_81 f6_87
  by_cases c : i8 = 13
  · rw [if_pos c]; exact ⟨_, rfl⟩
  · rw [if_neg c]
    by_cases d : s0 = 0
    · rw [if_pos d]; exact ⟨_, rfl⟩
    · rw [if_neg d]; exact ⟨_, rfl⟩
theorem own_nl (v : Int32) (d : f12_0 v = 0) (q : v = 13) : False := by
  rw [q] at d
  exact absurd d (by decide)
theorem own_12 (a b c d : Int32) (L C : List Value) (line0 : Int64) (pos cnt m : Int32) (hm0 : 0 ≤ m.toInt) (hm : m.toInt ≤ 4) : ∀ (k : Nat) (j4 : Int64) (i6 i7 : Int32), 0 ≤ i7.toInt → i7.toInt ≤ m.toInt → m.toInt - i7.toInt < k → (i6 = -1 ∨ (0 ≤ i6.toInt ∧ i6.toInt ≤ i7.toInt)) → (0 < i7.toInt → own_at a b c d (i7 - 1) = 13 → i6 = i7) →
    ∃ (line col : Int64) (acr : Int32), f6_12 k (own_S (own_C a b c d) L C line0 0 0 pos cnt) 1 0 0 m j4 i6 i7 = some (own_S (own_C a b c d) L C line col acr pos cnt) ∧ 0 ≤ col.toInt ∧ col.toInt ≤ 4 ∧ (acr ≠ 0 → col = 0) := by
  intro k
  induction k with
  | zero => intro j4 i6 i7 h0 h1 h2; omega
  | succ k ih =>
    intro j4 i6 i7 h0 h1 h2 h3 h4
    have a1 := c_iadd i7 1
    rw [show (1 : Int32).toInt = 1 from by decide] at a1
    have r1 := rng32 (i7 + 1)
    have a2 := c_isub i7 1
    rw [show (1 : Int32).toInt = 1 from by decide] at a2
    have r2 := rng32 (i7 - 1)
    have a3 := c_isub m 1
    rw [show (1 : Int32).toInt = 1 from by decide] at a3
    have r3 := rng32 (m - 1)
    have n1 : (i7 + 1).toInt = i7.toInt + 1 := by omega
    rw [show f6_12 (k + 1) = g6_12 (f6_12 k) from rfl]
    unfold g6_12
    by_cases e : i7 < m
    · have e' : i7.toInt < m.toInt := Int32.lt_iff_toInt_lt.mp e
      rw [if_pos e, own_rd _ _ _ _ _ _ _ _ _ _ _ _ h0 (by omega), Option.bind_some]
      by_cases f : f12_0 (own_at a b c d i7) = 0
      · rw [if_pos f]
        unfold f6_87
        refine ih j4 i6 (i7 + 1) (by omega) (by omega) (by omega) (h3.imp id (fun q => ⟨q.1, by omega⟩)) (fun _ q => ?_)
        rw [show i7 + 1 - 1 = i7 from Int32.add_sub_cancel ..] at q
        exact absurd q (fun q => own_nl _ f q)
      · rw [if_neg f]
        have key : ∀ j', ∃ (line col : Int64) (acr : Int32), f6_12 k (own_S (own_C a b c d) L C line0 0 0 pos cnt) 1 0 0 m j' (i7 + 1) (i7 + 1) = some (own_S (own_C a b c d) L C line col acr pos cnt) ∧ 0 ≤ col.toInt ∧ col.toInt ≤ 4 ∧ (acr ≠ 0 → col = 0) :=
          fun j' => ih j' (i7 + 1) (i7 + 1) (by omega) (by omega) (by omega) (Or.inr ⟨by omega, by omega⟩) (fun _ _ => rfl)
        by_cases z : i7 = 0
        · rw [if_pos z, own_g5, own_asI, Option.bind_some]
          obtain ⟨j', q⟩ := own_61 (f6_12 k) (own_S (own_C a b c d) L C line0 0 0 pos cnt) 1 0 0 m j4 i7 (own_at a b c d i7) 0
          rw [q]
          exact key j'
        · rw [if_neg z]
          have z' : i7.toInt ≠ 0 := fun q => z (Int32.toInt_inj.mp (by rw [q]; decide))
          unfold f6_49
          rw [own_rd _ _ _ _ _ _ _ _ _ _ _ _ (by omega) (by omega), Option.bind_some]
          by_cases w : own_at a b c d (i7 - 1) = 13
          · rw [if_pos w]
            obtain ⟨j', q⟩ := own_61 (f6_12 k) (own_S (own_C a b c d) L C line0 0 0 pos cnt) 1 0 0 m j4 i7 (own_at a b c d i7) 1
            rw [q]
            exact key j'
          · rw [if_neg w]
            obtain ⟨j', q⟩ := own_61 (f6_12 k) (own_S (own_C a b c d) L C line0 0 0 pos cnt) 1 0 0 m j4 i7 (own_at a b c d i7) 0
            rw [q]
            exact key j'
    · have e' : ¬ i7.toInt < m.toInt := fun q => e (Int32.lt_iff_toInt_lt.mpr q)
      have em : i7 = m := Int32.toInt_inj.mp (by omega)
      rw [if_neg e]
      rw [em] at h3 h4
      by_cases z : (0 : Int32) < m
      · have z' : (0 : Int) < m.toInt := Int32.lt_iff_toInt_lt.mp z
        rw [if_pos z, own_s3, Option.bind_some]
        by_cases w : i6 < 0
        · have w' : i6.toInt < 0 := Int32.lt_iff_toInt_lt.mp w
          have q : ¬ own_at a b c d (m - 1) = 13 := fun q => by have := h4 z' q; rw [this] at w'; omega
          rw [if_pos w, own_g4, own_asJ, Option.bind_some]
          unfold f6_116 f6_127
          rw [own_s4, Option.bind_some, own_rd _ _ _ _ _ _ _ _ _ _ _ _ (by omega) (by omega), Option.bind_some, if_neg q]
          unfold f6_146 f6_149
          rw [nar0, own_s5, Option.bind_some]
          have t : (0 + (m - 0).toInt64 : Int64).toInt = m.toInt := by rw [Int64.zero_add, c_i2l, Int32.sub_zero]
          exact ⟨_, _, _, rfl, by rw [t]; omega, by rw [t]; omega, fun q => absurd rfl q⟩
        · have w' : ¬ i6.toInt < 0 := fun q => w (Int32.lt_iff_toInt_lt.mpr q)
          have w2 : 0 ≤ i6.toInt ∧ i6.toInt ≤ m.toInt := h3.elim (fun q => absurd (by rw [q]; decide) w) id
          have s1 := c_isub m i6
          have rs := rng32 (m - i6)
          have t : ((m - i6).toInt64).toInt = m.toInt - i6.toInt := by rw [c_i2l]; omega
          rw [if_neg w]
          unfold f6_127
          rw [own_s4, Option.bind_some, own_rd _ _ _ _ _ _ _ _ _ _ _ _ (by omega) (by omega), Option.bind_some]
          by_cases q : own_at a b c d (m - 1) = 13
          · have q2 := h4 z' q
            rw [if_pos q]
            unfold f6_146 f6_149
            rw [nar1, own_s5, Option.bind_some]
            exact ⟨_, _, _, rfl, by rw [t]; omega, by rw [t]; omega, fun _ => Int64.toInt_inj.mp (by rw [t, q2]; show _ = (0 : Int); omega)⟩
          · rw [if_neg q]
            unfold f6_146 f6_149
            rw [nar0, own_s5, Option.bind_some]
            exact ⟨_, _, _, rfl, by rw [t]; omega, by rw [t]; omega, fun q => absurd rfl q⟩
      · rw [if_neg z]
        unfold f6_149
        exact ⟨_, _, _, rfl, by decide, by decide, fun q => absurd rfl q⟩
theorem own_58 (a b c d : Int32) (n : Int32) (hn : n.toInt ≤ 4) (dp : Nat) (hd : dp ≤ 3) : ∀ (k : Nat) (L C : List Value) (line col : Int64) (acr pos cnt i7 : Int32), 0 ≤ i7.toInt → i7.toInt ≤ n.toInt → n.toInt - i7.toInt < k → (i7.toInt < n.toInt → 0 < dp) → L.length = dp → C.length = dp → 0 ≤ pos.toInt → (0 < dp → pos.toInt < dp) → 0 ≤ col.toInt → col.toInt ≤ 4 + i7.toInt → (acr ≠ 0 → col = 0) →
    ∃ (L' C' : List Value) (line' col' : Int64) (acr' pos' cnt' : Int32), f4_58 k (own_S (own_C a b c d) L C line col acr pos cnt) 1 0 n i7 = some (own_S (own_C a b c d) L' C' line' col' acr' pos' cnt') ∧ L'.length = dp ∧ C'.length = dp ∧ 0 ≤ pos'.toInt ∧ (0 < dp → pos'.toInt < dp) ∧ 0 ≤ col'.toInt ∧ (acr' ≠ 0 → col' = 0) := by
  intro k
  induction k with
  | zero => intro L C line col acr pos cnt i7 h0 h1 h2; omega
  | succ k ih =>
    intro L C line col acr pos cnt i7 h0 h1 h2 h3 hL hC p0 p1 k0 k1 k2
    have a1 := c_iadd i7 1
    rw [show (1 : Int32).toInt = 1 from by decide] at a1
    have r1 := rng32 (i7 + 1)
    have n1 : (i7 + 1).toInt = i7.toInt + 1 := by omega
    rw [show f4_58 (k + 1) = g4_58 (f4_58 k) from rfl]
    unfold g4_58
    by_cases e : i7 < n
    · have e' : i7.toInt < n.toInt := Int32.lt_iff_toInt_lt.mp e
      obtain ⟨L1, C1, pos1, cnt1, q, q1, q2, q3, q4⟩ := own_13 (own_C a b c d) L C line col acr pos cnt dp hd hL hC p0 (p1 (h3 e'))
      rw [if_pos e, own_is, Option.bind_some, q, Option.bind_some, own_rd _ _ _ _ _ _ _ _ _ _ _ _ h0 (by omega), Option.bind_some, own_is, Option.bind_some, own_11, Option.bind_some]
      obtain ⟨v0, v1, v2⟩ := own_inv col acr (own_at a b c d i7) (4 + i7.toInt) (by omega) k0 k1
      exact ih L1 C1 _ _ _ pos1 cnt1 (i7 + 1) (by omega) (by omega) (by omega) (fun _ => h3 e') q1 q2 q3 (fun _ => q4) v0 (by omega) v2
    · rw [if_neg e]
      exact ⟨_, _, _, _, _, _, _, rfl, hL, hC, p0, p1, k0, k2⟩
theorem own_max (x : Int32) : (f5_0 0 x).toInt = if 0 < x.toInt then x.toInt else 0 := by
  unfold f5_0 f5_10
  simp only [Int32.lt_iff_toInt_lt, show (0 : Int32).toInt = 0 from by decide]
  split <;> rfl
/-- count(chars, 0, n) on a new counter -/
theorem own_3 (a b c d n : Int32) (L C : List Value) (dp : Nat) (hd : dp ≤ 3) (hL : L.length = dp) (hC : C.length = dp) (n0 : 0 ≤ n.toInt) (hn : n.toInt ≤ 4) :
    ∃ (L' C' : List Value) (line' col' : Int64) (acr' pos' cnt' : Int32), f3_0 (own_S (own_C a b c d) L C 0 0 0 0 0) 1 0 0 n = some (own_S (own_C a b c d) L' C' line' col' acr' pos' cnt') ∧ L'.length = dp ∧ C'.length = dp ∧ 0 ≤ pos'.toInt ∧ (0 < dp → pos'.toInt < dp) ∧ 0 ≤ col'.toInt ∧ (acr' ≠ 0 → col' = 0) := by
  unfold f3_0 f4_0
  rw [own_is, Option.bind_some, own_g2, own_asR, Option.bind_some, own_len, Option.bind_some, if_pos (by decide), hC, Int32.zero_add]
  have dd := own_dd dp hd
  have s1 := c_isub n dp.toInt32
  have rs := rng32 (n - dp.toInt32)
  have mx := own_max (n - dp.toInt32)
  have m0 : 0 ≤ (f5_0 0 (n - dp.toInt32)).toInt := by rw [mx]; split <;> omega
  have m1 : (f5_0 0 (n - dp.toInt32)).toInt ≤ n.toInt := by rw [mx]; split <;> omega
  have m2 : (f5_0 0 (n - dp.toInt32)).toInt < n.toInt → 0 < dp := by rw [mx]; split <;> omega
  generalize f5_0 0 (n - dp.toInt32) = m at m0 m1 m2 ⊢
  unfold f4_26 f6_0
  rw [own_is, Option.bind_some, own_g3, own_asJ, Option.bind_some]
  obtain ⟨line, col, acr, e, e1, e2, e3⟩ := own_12 a b c d L C 0 0 0 m m0 (by omega) 8 0 (-1) 0 (by decide) m0 (by show m.toInt - (0 : Int) < _; omega) (Or.inl rfl) (fun q => absurd q (by decide))
  rw [e, Option.bind_some]
  obtain ⟨L', C', line', col', acr', pos', cnt', g, g1, g2, g3, g4, g5, g6⟩ := own_58 a b c d n hn dp hd 8 L C line col acr 0 0 m m0 m1 (by omega) m2 hL hC (by decide) (fun q => by show (0 : Int) < _; omega) e1 (by omega) e3
  rw [g, Option.bind_some]
  exact ⟨_, _, _, _, _, _, _, rfl, g1, g2, g3, g4, g5, g6⟩
/-- count(last) -/
theorem own_10 (cs L C : List Value) (line col : Int64) (acr pos cnt v : Int32) (dp : Nat) (hd : dp ≤ 3) (hL : L.length = dp) (hC : C.length = dp) (p0 : 0 ≤ pos.toInt) (p1 : 0 < dp → pos.toInt < dp) :
    ∃ (L' C' : List Value) (pos' cnt' : Int32), f10_0 (own_S cs L C line col acr pos cnt) 1 v = some (own_S cs L' C' (own_l v line acr) (own_k v col acr) (own_a v) pos' cnt') := by
  unfold f10_0 f10_12
  rw [own_g2, own_asR, Option.bind_some, own_len, Option.bind_some, hC]
  by_cases c : (0 : Int32) < dp.toInt32
  · have c' : (0 : Int) < dp.toInt32.toInt := Int32.lt_iff_toInt_lt.mp c
    rw [own_dd dp hd] at c'
    obtain ⟨L1, C1, pos1, cnt1, q, q1, q2, q3, q4⟩ := own_13 cs L C line col acr pos cnt dp hd hL hC p0 (p1 (by omega))
    rw [if_pos c, own_is, Option.bind_some, q, Option.bind_some, own_is, Option.bind_some, own_11, Option.bind_some]
    exact ⟨_, _, _, _, rfl⟩
  · rw [if_neg c, own_is, Option.bind_some, own_11, Option.bind_some]
    exact ⟨_, _, _, _, rfl⟩
theorem own_330 (A : AH) (j : Int64) (h : ¬ j < 0) : f0_330 A j 1 1 = some (1, A) := by
  unfold f0_330 f0_352
  rw [if_neg h, if_neg (by decide), if_neg (by decide), nar1]
theorem own_179 (cs L C : List Value) (line j : Int64) (acr pos cnt v e : Int32) (dp : Nat) (hd : dp ≤ 3) (hL : L.length = dp) (hC : C.length = dp) (p0 : 0 ≤ pos.toInt) (p1 : 0 < dp → pos.toInt < dp) (hj : ¬ j < 0) (he : e ≠ 0 → acr = 0) :
    ∃ A, f0_179 (own_S cs L C line 0 acr pos cnt) v 1 j line e 1 = some (1, A) := by
  obtain ⟨L1, C1, pos1, cnt1, q⟩ := own_10 cs L C line 0 acr pos cnt v dp hd hL hC p0 p1
  unfold f0_179
  rw [own_is, Option.bind_some, q, Option.bind_some, own_is, Option.bind_some, own_7, Option.bind_some]
  dsimp only
  rw [own_is, Option.bind_some, own_8, Option.bind_some]
  dsimp only
  by_cases c : v = 13
  · rw [if_pos c]
    have l0 : own_l v line acr = line + 1 := if_pos c
    have k0 : own_k v 0 acr = 0 := if_pos c
    unfold f0_213 f0_229
    rw [if_pos l0, if_pos k0, own_330 _ _ hj]
    exact ⟨_, rfl⟩
  · rw [if_neg c]
    by_cases d : v = 10
    · rw [if_pos d]
      have k0 : own_k v 0 acr = 0 := by
        unfold own_k; rw [if_neg c, if_pos d]; split <;> rfl
      by_cases e0 : e = 0
      · rw [if_pos e0]
        unfold f0_273 f0_298 f0_303
        rw [if_pos k0]
        by_cases a0 : acr = 0
        · have l0 : own_l v line acr = line + 1 := by unfold own_l; rw [if_neg c, if_pos d, if_pos a0]
          by_cases w : own_l v line acr = line
          · rw [if_pos w, own_330 _ _ hj]; exact ⟨_, rfl⟩
          · rw [if_neg w, if_pos l0, own_330 _ _ hj]; exact ⟨_, rfl⟩
        · have l0 : own_l v line acr = line := by unfold own_l; rw [if_neg c, if_pos d, if_neg a0]
          rw [if_pos l0, own_330 _ _ hj]; exact ⟨_, rfl⟩
      · have l0 : own_l v line acr = line + 1 := by unfold own_l; rw [if_neg c, if_pos d, if_pos (he e0)]
        rw [if_neg e0]
        unfold f0_246 f0_268
        rw [if_pos k0, if_pos l0, own_330 _ _ hj]
        exact ⟨_, rfl⟩
    · have l0 : own_l v line acr = line := by unfold own_l; rw [if_neg c, if_neg d]
      have k0 : own_k v 0 acr = 1 := by unfold own_k; rw [if_neg c, if_neg d]; rfl
      rw [if_neg d]
      unfold f0_310 f0_328
      rw [if_pos l0, if_pos k0, own_330 _ _ hj]
      exact ⟨_, rfl⟩
theorem own_93 (cs L C : List Value) (line col : Int64) (acr pos cnt v : Int32) (dp : Nat) (hd : dp ≤ 3) (hL : L.length = dp) (hC : C.length = dp) (p0 : 0 ≤ pos.toInt) (p1 : 0 < dp → pos.toInt < dp) (k0 : 0 ≤ col.toInt) (k2 : acr ≠ 0 → col = 0) :
    ∃ A, f0_93 (own_S cs L C line col acr pos cnt) v 1 line col 1 = some (1, A) := by
  have hj : ¬ col < 0 := fun q => by have := Int64.lt_iff_toInt_lt.mp q; rw [show (0 : Int64).toInt = 0 from by decide] at this; omega
  unfold f0_93 f9_0 f9_24
  rw [own_is, Option.bind_some, own_g4, own_asJ, Option.bind_some]
  by_cases c : (0 : Int64) < col
  · rw [if_pos c, own_g3, own_asJ, Option.bind_some, own_s3, Option.bind_some, own_s4, Option.bind_some, Option.bind_some, own_is, Option.bind_some, own_7, Option.bind_some]
    dsimp only
    rw [own_is, Option.bind_some, own_8, Option.bind_some]
    dsimp only
    rw [if_pos c]
    unfold f0_122 f0_151
    rw [if_neg (by decide), if_pos rfl, if_pos rfl]
    have a0 : acr = 0 := by
      by_cases q : acr = 0
      · exact q
      · rw [k2 q] at c; exact absurd c (by decide)
    exact own_179 cs L C (line + 1) col acr pos cnt v 1 dp hd hL hC p0 p1 hj (fun _ => a0)
  · have c' : ¬ (0 : Int64).toInt < col.toInt := fun q => c (Int64.lt_iff_toInt_lt.mpr q)
    rw [show (0 : Int64).toInt = 0 from by decide] at c'
    have z : col = 0 := Int64.toInt_inj.mp (by show _ = (0 : Int); omega)
    rw [if_neg c, Option.bind_some, own_is, Option.bind_some, own_7, Option.bind_some]
    dsimp only
    rw [own_is, Option.bind_some, own_8, Option.bind_some]
    dsimp only
    rw [if_neg c]
    unfold f0_122 f0_177
    rw [if_pos rfl, if_pos rfl, if_pos rfl, z]
    exact own_179 cs L C line 0 acr pos cnt v 0 dp hd hL hC p0 p1 (by decide) (fun q => absurd rfl q)
theorem own_new (cs : List Value) (dp : Int32) (h0 : 0 ≤ dp.toInt) (h1 : dp.toInt ≤ 3) : f2_0 [(1, cs), (10, own_ds10)] 1 dp = some (own_S cs (List.replicate dp.toInt.toNat (.long 0)) (List.replicate dp.toInt.toNat (.long 0)) 0 0 0 0 0) := by
  unfold f2_0
  rw [show h_fset [(1, cs), (10, own_ds10)] 10 1 0 (.long (-1 : Int64)) = some [(1, cs), (10, [.long (-1 : Int64), .null, .null, .long 0, .long 0, .int 0, .int 0, .int 0, .long 0])] from rfl, Option.bind_some, anew_ok h0 (by omega), Option.bind_some]
  show (h_fset [(1, cs), (10, [.long (-1 : Int64), .null, .null, .long 0, .long 0, .int 0, .int 0, .int 0, .long 0]), (3, List.replicate dp.toInt.toNat (.long 0))] 10 1 1 (.ref 2)).bind _ = _
  rw [show h_fset [(1, cs), (10, [.long (-1 : Int64), .null, .null, .long 0, .long 0, .int 0, .int 0, .int 0, .long 0]), (3, List.replicate dp.toInt.toNat (.long 0))] 10 1 1 (.ref 2) = some [(1, cs), (10, [.long (-1 : Int64), .ref 2, .null, .long 0, .long 0, .int 0, .int 0, .int 0, .long 0]), (3, List.replicate dp.toInt.toNat (.long 0))] from rfl, Option.bind_some, anew_ok h0 (by omega), Option.bind_some]
  rfl
theorem own_p1 (a b c d v : Int32) : h_aset [(1, own_C a b c d)] 1 0 1 (.int v) = some [(1, own_C a v c d)] := rfl
theorem own_p2 (a b c d v : Int32) : h_aset [(1, own_C a b c d)] 1 0 2 (.int v) = some [(1, own_C a b v d)] := rfl
theorem own_p3 (a b c d v : Int32) : h_aset [(1, own_C a b c d)] 1 0 3 (.int v) = some [(1, own_C a b c v)] := rfl
theorem own_p0 (a b c d v : Int32) : h_aset [(1, own_C a b c d)] 1 0 0 (.int v) = some [(1, own_C v b c d)] := rfl
theorem own_mk : h_anew [] 1 4 4 (.int 0) = some (0, [(1, own_C 0 0 0 0)]) := rfl
theorem own_on (cs : List Value) : h_onew [(1, cs)] 10 own_ds10 = some (1, [(1, cs), (10, own_ds10)]) := rfl
theorem own_59 (a b c d v n dp : Int32) (h0 : 0 ≤ dp.toInt) (h1 : dp.toInt ≤ 3) (n0 : 0 ≤ n.toInt) (n1 : n.toInt ≤ 4) : ∃ A, f0_59 [(1, own_C a b c d), (10, own_ds10)] dp n 0 v 1 = some (1, A) := by
  unfold f0_59
  rw [own_new _ dp h0 h1, Option.bind_some, own_is, Option.bind_some]
  obtain ⟨L', C', line', col', acr', pos', cnt', g, g1, g2, g3, g4, g5, g6⟩ := own_3 a b c d n (List.replicate dp.toInt.toNat (.long 0)) (List.replicate dp.toInt.toNat (.long 0)) dp.toInt.toNat (by omega) List.length_replicate List.length_replicate n0 n1
  rw [g, Option.bind_some, own_is, Option.bind_some, own_7, Option.bind_some]
  dsimp only
  rw [own_is, Option.bind_some, own_8, Option.bind_some]
  exact own_93 _ _ _ _ _ _ _ _ _ dp.toInt.toNat (by omega) g1 g2 g3 g4 g5 g6
theorem own_plain (i0 i1 i2 i3 i4 i5 : Int32) : ∃ A, f0_0 [] i0 i1 i2 i3 i4 i5 = some (1, A) := by
  have m := c_mask i0 3 2 (by decide) (by decide)
  simp only [show ((2 ^ 2 : Nat) : Int) = 4 from rfl] at m
  have m2 := c_mask (((i0).toUInt32 >>> ((2 : Int32) &&& 31).toUInt32).toInt32) 7 3 (by decide) (by decide)
  simp only [show ((2 ^ 3 : Nat) : Int) = 8 from rfl] at m2
  have e := (c_irem ((((i0).toUInt32 >>> ((2 : Int32) &&& 31).toUInt32).toInt32) &&& 7) 5 5 (by decide)).1 (by omega)
  unfold f0_0 f0_8 f0_31
  rw [own_mk, Option.bind_some]
  dsimp only
  rw [own_p0, Option.bind_some, own_p1, Option.bind_some, own_p2, Option.bind_some, own_p3, Option.bind_some, own_on, Option.bind_some]
  exact own_59 _ _ _ _ _ _ _ (by omega) (by omega) (by omega) (by omega)
set_option maxRecDepth 65536 in
set_option maxHeartbeats 4000000 in
theorem comes_1 {Post : Tables → Env → Array Value → State → Outcome → State → Prop} (hpost : ∀ tb e args s v u, (limb_1_1.after args s (.returned v) u = true ∧ limb_1_2.after args s (.returned v) u = true) → FrameEnd s (.returned v) u (Jvm.fieldLocs frame_1_writes args s ++ Jvm.arrayLocs frame_1_arrays args s ++ Jvm.staticLocs frame_1_statics s) 16 128 → Post tb e args s (.returned v) u) :
    ArmFor flags0 classFile x code maxLocals ret World_1 tables_1 room_1 Calls_1 rest_1 Pre_1 Post := by
  intro l hfl _ _ p e ha hc hk s m args below hf hA hF happ hP
  obtain ⟨hcalls, hrest, hpre⟩ := hP
  obtain ⟨-, -, -, hnamed, -, -, -, hat⟩ := (Spec.applies_iff hf).mp happ
  obtain ⟨hg, hn⟩ := and_e (Cond.before_iff.mp (show (Jvm.Cond.and given_1 narrow_1).before args s = true from hpre))
  obtain ⟨b0, hg⟩ := and_e hg
  obtain ⟨b1, hg⟩ := and_e hg
  obtain ⟨b2, hg⟩ := and_e hg
  obtain ⟨b3, hg⟩ := and_e hg
  obtain ⟨b4, hg⟩ := and_e hg
  obtain ⟨b5, hg⟩ := and_e hg
  have b6 := hg
  obtain ⟨w0, w1, w2, w3, w4, w5, rfl⟩ : ∃ w0 w1 w2 w3 w4 w5 : Value, args = #[w0, w1, w2, w3, w4, w5] := by
    have hs : args.size = 6 := by simpa [Cond.value, given_1] using b0
    obtain ⟨L⟩ := args
    match L, hs with
    | [w0, w1, w2, w3, w4, w5], _ => exact ⟨w0, w1, w2, w3, w4, w5, rfl⟩
  have hw := fun d (hd : d ∈ tables_1) => atoms_spec (ws := Jvm.Cond.code x code maxLocals ret :: tables_1) hat d (List.mem_cons_of_mem _ hd)
  obtain ⟨i0, ei0⟩ := is_v b1
  obtain rfl : w0 = (.int i0) := Option.some.inj ei0
  obtain ⟨i1, ei1⟩ := is_v b2
  obtain rfl : w1 = (.int i1) := Option.some.inj ei1
  obtain ⟨i2, ei2⟩ := is_v b3
  obtain rfl : w2 = (.int i2) := Option.some.inj ei2
  obtain ⟨i3, ei3⟩ := is_v b4
  obtain rfl : w3 = (.int i3) := Option.some.inj ei3
  obtain ⟨i4, ei4⟩ := is_v b5
  obtain rfl : w4 = (.int i4) := Option.some.inj ei4
  obtain ⟨i5, ei5⟩ := is_v b6
  obtain rfl : w5 = (.int i5) := Option.some.inj ei5
  have RA : Rep own_D s s.heap.size s.heap [] := ⟨rfl, fun i t vs e => by simp at e⟩
  obtain ⟨AE, hv⟩ := own_plain i0 i1 i2 i3 i4 i5
  obtain ⟨n, o, h1, h2, h3, v, L, rfl, ⟨rfl, N, -⟩, hq⟩ := rm0 (l := l) (n0 := s.heap.size) hw [] i0 i1 i2 i3 i4 i5 hv tables_1 s.heap RA p e ha hc hk s m _ below hf ((Spec.applies_iff_loose hf).mp happ).1 ⟨rfl, State.Warmed39.refl s, rfl⟩ trivial
  refine ⟨n, _, h1, h2, h3, hpost _ _ _ _ _ _ ⟨Cond.after_iff.mpr rfl, Cond.after_iff.mpr (eq_i res_at (Term.int_eval (1)) rfl)⟩ ⟨hq.1, hq.2.1, (hq.2.2.sift fun y hy => Or.inr (N y hy)).mono (by decide) (by decide)⟩⟩
theorem main_1_1 : Claimed_1_1 := comes_1 fun _ _ _ _ _ _ h hF => ⟨h.1, hF⟩
theorem main_1_2 : Claimed_1_2 := comes_1 fun _ _ _ _ _ _ h hF => ⟨h.2, hF⟩
end Jvm.Pilot.@@N@@
namespace Jvm.Pilot.@@N@@
open Jvm Jvm.ClassFile Sem Op Lib Jvm.Free Jvm.Stand Jvm.Pilot.@@N@@.Jvm.D
/-! MADE BY PROGRAM (witnessworld.py) out of the Statement's table words and the real class files: 14 classes; the members and pool entries that the words name. The judged class is class 1, her method 2. -/
namespace start1
open Jvm.ClassFile
def u (s : String) : CpInfo := .utf8 (stringToUtf16 s)
/-- a pool by its gaps: so many unusable entries, then the entry; so many at the end -/
def gap : Nat → List CpInfo → List CpInfo
  | 0, r => r
  | n + 1, r => .unusable :: gap n r
def poolList (es : List (Nat × CpInfo)) (last : Nat) : List CpInfo := es.foldr (fun e r => gap e.1 (e.2 :: r)) (gap last [])
def pool (es : List (Nat × CpInfo)) (last : Nat) : Array CpInfo := ⟨poolList es last⟩
def fileOf (pool : Array CpInfo) (this : Nat) (attrs : Array Attribute := #[]) (ms : Array MethodInfo := #[]) (fl : Nat := 33) (sup : Nat := 0) (ifs : Array Nat := #[]) (fds : Array FieldInfo := #[]) : ClassFile where
  minorVersion := 0
  majorVersion := 65
  constantPool := pool
  accessFlags := fl
  thisClass := this
  superClass := sup
  interfaces := ifs
  fields := fds
  methods := ms
  attributes := attrs
def plain (name : String) (sup : Option ClassId) : Class where
  name := name
  kind := .ordinary
  loader := none
  accessFlags := 33
  super := sup
  interfaces := #[]
  cf := none
  fields := #[]
  methods := #[]
  instanceTypes := #[]
  staticTypes := #[]
  resolved := #[]
  callSites := []
  init := .initialized
  statics := none
  mirror := none

def pool0 : Array CpInfo := pool [(5, u "<init>"), (0, u "()V"), (1, .class_ 10), (1, u "java/lang/Object")] 113

def k0c0 : Code := { maxStack := 0, maxLocals := 1, code := object_method_1_code, exceptionTable := #[], attributes := #[] }
def k0m0 : Method := { name := "<init>", desc := "()V", sig := { parameters := [], returnType := none }, accessFlags := 1, code := some k0c0 }
/-- java/lang/Object -/
def k0 : Class := { plain "java/lang/Object" none with
  accessFlags := 33
  interfaces := #[]
  cf := some (fileOf pool0 8 #[] #[{ accessFlags := 1, nameIndex := 5, descriptorIndex := 6, attributes := #[] }] 33 0 #[] #[])
  fields := #[]
  methods := #[k0m0]
  instanceTypes := #[]
  staticTypes := #[]
  resolved := Array.replicate 124 none
  statics := none }

def pool1 : Array CpInfo := pool [(2, .class_ 4), (1, u "java/lang/Object"), (0, u "<init>"), (0, u "()V"), (0, .methodref 8 9), (0, .class_ 10), (0, .nameAndType 11 12), (0, u "com/example/runnel/runnel/io/LineCounterEndLastLinePinLaw"), (0, u "ch"), (0, u "(I)C"), (0, .class_ 14), (0, u "com/example/runnel/runnel/io/LineCounter"), (0, .methodref 13 16), (0, .nameAndType 5 17), (0, u "(I)V"), (0, .methodref 13 19), (0, .nameAndType 20 21), (0, u "count"), (0, u "([CII)V"), (0, .methodref 13 23), (0, .nameAndType 24 25), (0, u "lineNumber"), (0, u "()J"), (0, .methodref 13 27), (0, .nameAndType 28 25), (0, u "column"), (0, .methodref 13 30), (0, .nameAndType 31 6), (0, u "endLastLine"), (0, .methodref 13 33), (0, .nameAndType 20 34), (0, u "(C)V"), (3, u "law"), (0, u "(IIIIII)Z")] 4

def k1m0 : Method := { name := "<init>", desc := "()V", sig := { parameters := [], returnType := none }, accessFlags := 1, code := none }
def k1c1 : Code := { maxStack := 2, maxLocals := 2, code := method_2_code, exceptionTable := #[], attributes := #[] }
def k1m1 : Method := { name := "ch", desc := "(I)C", sig := { parameters := [.int], returnType := some .char }, accessFlags := 10, code := some k1c1 }
def k1c2 : Code := { maxStack := 6, maxLocals := 26, code := code, exceptionTable := #[], attributes := #[] }
def k1m2 : Method := { name := "law", desc := "(IIIIII)Z", sig := { parameters := [.int, .int, .int, .int, .int, .int], returnType := some .boolean }, accessFlags := 9, code := some k1c2 }
/-- com/example/runnel/runnel/io/LineCounterEndLastLinePinLaw -/
def k1 : Class := { plain "com/example/runnel/runnel/io/LineCounterEndLastLinePinLaw" (some 0) with
  accessFlags := 49
  interfaces := #[]
  cf := some (fileOf pool1 8 #[] #[{ accessFlags := 1, nameIndex := 5, descriptorIndex := 6, attributes := #[] }, { accessFlags := 10, nameIndex := 11, descriptorIndex := 12, attributes := #[] }, { accessFlags := 9, nameIndex := 38, descriptorIndex := 39, attributes := #[] }] 49 2 #[] #[])
  fields := #[]
  methods := #[k1m0, k1m1, k1m2]
  instanceTypes := #[]
  staticTypes := #[]
  resolved := Array.replicate 44 none
  statics := none }

def pool2 : Array CpInfo := pool [(1, .methodref 2 3), (0, .class_ 4), (0, .nameAndType 5 6), (0, u "java/lang/Object"), (0, u "<init>"), (0, u "()V"), (0, .long 18446744073709551615), (1, .fieldref 10 11), (0, .class_ 12), (0, .nameAndType 13 14), (0, u "com/example/runnel/runnel/io/LineCounter"), (0, u "unwrittenFirstColumn"), (0, u "J"), (0, .fieldref 10 16), (0, .nameAndType 17 18), (0, u "earlierLineNumbers"), (0, u "[J"), (0, .fieldref 10 20), (0, .nameAndType 21 18), (0, u "earlierColumns"), (0, .fieldref 10 23), (0, .nameAndType 24 14), (0, u "lineNumber"), (0, .fieldref 10 26), (0, .nameAndType 27 14), (0, u "column"), (0, .methodref 10 29), (0, .nameAndType 30 6), (0, u "remember"), (0, .methodref 10 32), (0, .nameAndType 33 34), (0, u "advance"), (0, u "(C)V"), (0, .methodref 10 36), (0, .nameAndType 37 38), (0, u "count"), (0, u "([CIII)V"), (0, .methodref 40 41), (0, .class_ 42), (0, .nameAndType 43 44), (0, u "java/lang/Math"), (0, u "max"), (0, u "(II)I"), (0, .methodref 10 46), (0, .nameAndType 33 47), (0, u "([CII)V"), (13, .methodref 10 62), (0, .nameAndType 63 64), (0, u "isTerminator"), (0, u "(C)Z"), (0, .fieldref 10 66), (0, .nameAndType 67 14), (0, u "unwrittenLine"), (0, .fieldref 10 69), (0, .nameAndType 70 71), (0, u "held"), (0, u "I"), (0, .fieldref 10 73), (0, .nameAndType 74 75), (0, u "afterCarriageReturn"), (0, u "Z"), (3, .methodref 10 80), (0, .nameAndType 81 6), (0, u "writeRing"), (0, .fieldref 10 83), (0, .nameAndType 84 71), (0, u "top"), (17, u "(I)V"), (3, u "()J"), (3, u "endLastLine")] 6

def k2c0 : Code := { maxStack := 3, maxLocals := 2, code := prog_13_method_1_code, exceptionTable := #[], attributes := #[] }
def k2m0 : Method := { name := "<init>", desc := "(I)V", sig := { parameters := [.int], returnType := none }, accessFlags := 0, code := some k2c0 }
def k2c1 : Code := { maxStack := 2, maxLocals := 1, code := prog_13_method_2_code, exceptionTable := #[], attributes := #[] }
def k2m1 : Method := { name := "isTerminator", desc := "(C)Z", sig := { parameters := [.char], returnType := some .boolean }, accessFlags := 8, code := some k2c1 }
def k2c2 : Code := { maxStack := 2, maxLocals := 1, code := prog_13_method_3_code, exceptionTable := #[], attributes := #[] }
def k2m2 : Method := { name := "lineNumber", desc := "()J", sig := { parameters := [], returnType := some .long }, accessFlags := 0, code := some k2c2 }
def k2c3 : Code := { maxStack := 2, maxLocals := 1, code := prog_13_method_4_code, exceptionTable := #[], attributes := #[] }
def k2m3 : Method := { name := "column", desc := "()J", sig := { parameters := [], returnType := some .long }, accessFlags := 0, code := some k2c3 }
def k2c4 : Code := { maxStack := 2, maxLocals := 2, code := prog_13_method_5_code, exceptionTable := #[], attributes := #[] }
def k2m4 : Method := { name := "count", desc := "(C)V", sig := { parameters := [.char], returnType := none }, accessFlags := 0, code := some k2c4 }
def k2c5 : Code := { maxStack := 5, maxLocals := 4, code := prog_13_method_6_code, exceptionTable := #[], attributes := #[] }
def k2m5 : Method := { name := "count", desc := "([CII)V", sig := { parameters := [(.array .char), .int, .int], returnType := none }, accessFlags := 0, code := some k2c5 }
def k2c6 : Code := { maxStack := 8, maxLocals := 8, code := prog_13_method_7_code, exceptionTable := #[], attributes := #[] }
def k2m6 : Method := { name := "count", desc := "([CIII)V", sig := { parameters := [(.array .char), .int, .int, .int], returnType := none }, accessFlags := 0, code := some k2c6 }
def k2c7 : Code := { maxStack := 5, maxLocals := 1, code := prog_13_method_11_code, exceptionTable := #[], attributes := #[] }
def k2m7 : Method := { name := "endLastLine", desc := "()V", sig := { parameters := [], returnType := none }, accessFlags := 0, code := some k2c7 }
def k2c8 : Code := { maxStack := 6, maxLocals := 3, code := prog_13_method_15_code, exceptionTable := #[], attributes := #[] }
def k2m8 : Method := { name := "writeRing", desc := "()V", sig := { parameters := [], returnType := none }, accessFlags := 2, code := some k2c8 }
def k2c9 : Code := { maxStack := 5, maxLocals := 10, code := prog_13_method_16_code, exceptionTable := #[], attributes := #[] }
def k2m9 : Method := { name := "advance", desc := "([CII)V", sig := { parameters := [(.array .char), .int, .int], returnType := none }, accessFlags := 2, code := some k2c9 }
def k2c10 : Code := { maxStack := 5, maxLocals := 2, code := prog_13_method_19_code, exceptionTable := #[], attributes := #[] }
def k2m10 : Method := { name := "advance", desc := "(C)V", sig := { parameters := [.char], returnType := none }, accessFlags := 2, code := some k2c10 }
def k2c11 : Code := { maxStack := 4, maxLocals := 1, code := prog_13_method_20_code, exceptionTable := #[], attributes := #[] }
def k2m11 : Method := { name := "remember", desc := "()V", sig := { parameters := [], returnType := none }, accessFlags := 2, code := some k2c11 }
/-- com/example/runnel/runnel/io/LineCounter -/
def k2 : Class := { plain "com/example/runnel/runnel/io/LineCounter" (some 0) with
  accessFlags := 48
  interfaces := #[]
  cf := some (fileOf pool2 10 #[] #[{ accessFlags := 0, nameIndex := 5, descriptorIndex := 102, attributes := #[] }, { accessFlags := 8, nameIndex := 63, descriptorIndex := 64, attributes := #[] }, { accessFlags := 0, nameIndex := 24, descriptorIndex := 106, attributes := #[] }, { accessFlags := 0, nameIndex := 27, descriptorIndex := 106, attributes := #[] }, { accessFlags := 0, nameIndex := 37, descriptorIndex := 34, attributes := #[] }, { accessFlags := 0, nameIndex := 37, descriptorIndex := 47, attributes := #[] }, { accessFlags := 0, nameIndex := 37, descriptorIndex := 38, attributes := #[] }, { accessFlags := 0, nameIndex := 110, descriptorIndex := 6, attributes := #[] }, { accessFlags := 2, nameIndex := 81, descriptorIndex := 6, attributes := #[] }, { accessFlags := 2, nameIndex := 33, descriptorIndex := 47, attributes := #[] }, { accessFlags := 2, nameIndex := 33, descriptorIndex := 34, attributes := #[] }, { accessFlags := 2, nameIndex := 30, descriptorIndex := 6, attributes := #[] }] 48 2 #[] #[{ accessFlags := 2, nameIndex := 24, descriptorIndex := 14, attributes := #[] }, { accessFlags := 2, nameIndex := 27, descriptorIndex := 14, attributes := #[] }, { accessFlags := 2, nameIndex := 74, descriptorIndex := 75, attributes := #[] }, { accessFlags := 18, nameIndex := 17, descriptorIndex := 18, attributes := #[] }, { accessFlags := 18, nameIndex := 21, descriptorIndex := 18, attributes := #[] }, { accessFlags := 2, nameIndex := 84, descriptorIndex := 71, attributes := #[] }, { accessFlags := 2, nameIndex := 70, descriptorIndex := 71, attributes := #[] }, { accessFlags := 2, nameIndex := 13, descriptorIndex := 14, attributes := #[] }, { accessFlags := 2, nameIndex := 67, descriptorIndex := 14, attributes := #[] }])
  fields := #[{ name := "lineNumber", type := .long, accessFlags := 2, slot := 0, constantValue := 0 }, { name := "column", type := .long, accessFlags := 2, slot := 1, constantValue := 0 }, { name := "afterCarriageReturn", type := .boolean, accessFlags := 2, slot := 2, constantValue := 0 }, { name := "earlierLineNumbers", type := (.array .long), accessFlags := 18, slot := 3, constantValue := 0 }, { name := "earlierColumns", type := (.array .long), accessFlags := 18, slot := 4, constantValue := 0 }, { name := "top", type := .int, accessFlags := 2, slot := 5, constantValue := 0 }, { name := "held", type := .int, accessFlags := 2, slot := 6, constantValue := 0 }, { name := "unwrittenFirstColumn", type := .long, accessFlags := 2, slot := 7, constantValue := 0 }, { name := "unwrittenLine", type := .long, accessFlags := 2, slot := 8, constantValue := 0 }]
  methods := #[k2m0, k2m1, k2m2, k2m3, k2m4, k2m5, k2m6, k2m7, k2m8, k2m9, k2m10, k2m11]
  instanceTypes := #[.long, .long, .boolean, (.array .long), (.array .long), .int, .int, .long, .long]
  staticTypes := #[]
  resolved := Array.replicate 117 none
  statics := none }

def pool3 : Array CpInfo := pool [(1, .class_ 2), (0, u "java/lang/Math"), (1, .class_ 6), (1, u "java/lang/Object"), (0, u "<init>"), (0, u "()V"), (89, .class_ 100), (1, u "java/lang/Math$RandomNumberGeneratorHolder"), (71, u "negativeZeroFloatBits"), (0, u "J"), (2, u "negativeZeroDoubleBits"), (21, u "max"), (46, u "$assertionsDisabled"), (0, u "Z"), (88, u "(II)I"), (2, u "twoToTheDoubleScaleDown"), (0, u "D"), (4, u "twoToTheDoubleScaleUp"), (9, u "E"), (3, u "PI"), (2, u "TAU"), (2, u "DEGREES_TO_RADIANS"), (0, u "RADIANS_TO_DEGREES")] 94

def k3m0 : Method := { name := "<init>", desc := "()V", sig := { parameters := [], returnType := none }, accessFlags := 2, code := none }
def k3c1 : Code := { maxStack := 2, maxLocals := 2, code := jdk_29_method_65_code, exceptionTable := #[], attributes := #[] }
def k3m1 : Method := { name := "max", desc := "(II)I", sig := { parameters := [.int, .int], returnType := some .int }, accessFlags := 9, code := some k3c1 }
/-- java/lang/Math -/
def k3 : Class := { plain "java/lang/Math" (some 0) with
  accessFlags := 49
  interfaces := #[]
  cf := some (fileOf pool3 1 #[.nestMembers #[98]] #[{ accessFlags := 2, nameIndex := 7, descriptorIndex := 8, attributes := #[] }, { accessFlags := 9, nameIndex := 198, descriptorIndex := 335, attributes := #[] }] 49 4 #[] #[{ accessFlags := 25, nameIndex := 354, descriptorIndex := 339, attributes := #[] }, { accessFlags := 25, nameIndex := 358, descriptorIndex := 339, attributes := #[] }, { accessFlags := 25, nameIndex := 361, descriptorIndex := 339, attributes := #[] }, { accessFlags := 26, nameIndex := 364, descriptorIndex := 339, attributes := #[] }, { accessFlags := 26, nameIndex := 365, descriptorIndex := 339, attributes := #[] }, { accessFlags := 26, nameIndex := 172, descriptorIndex := 173, attributes := #[] }, { accessFlags := 26, nameIndex := 176, descriptorIndex := 173, attributes := #[] }, { accessFlags := 8, nameIndex := 344, descriptorIndex := 339, attributes := #[] }, { accessFlags := 8, nameIndex := 338, descriptorIndex := 339, attributes := #[] }, { accessFlags := 4120, nameIndex := 245, descriptorIndex := 246, attributes := #[] }])
  fields := #[{ name := "E", type := .double, accessFlags := 25, slot := 0, constantValue := 0 }, { name := "PI", type := .double, accessFlags := 25, slot := 1, constantValue := 0 }, { name := "TAU", type := .double, accessFlags := 25, slot := 2, constantValue := 0 }, { name := "DEGREES_TO_RADIANS", type := .double, accessFlags := 26, slot := 3, constantValue := 0 }, { name := "RADIANS_TO_DEGREES", type := .double, accessFlags := 26, slot := 4, constantValue := 0 }, { name := "negativeZeroFloatBits", type := .long, accessFlags := 26, slot := 5, constantValue := 0 }, { name := "negativeZeroDoubleBits", type := .long, accessFlags := 26, slot := 6, constantValue := 0 }, { name := "twoToTheDoubleScaleUp", type := .double, accessFlags := 8, slot := 7, constantValue := 0 }, { name := "twoToTheDoubleScaleDown", type := .double, accessFlags := 8, slot := 8, constantValue := 0 }, { name := "$assertionsDisabled", type := .boolean, accessFlags := 4120, slot := 9, constantValue := 0 }]
  methods := #[k3m0, k3m1]
  instanceTypes := #[]
  staticTypes := #[.double, .double, .double, .double, .double, .long, .long, .double, .double, .boolean]
  resolved := Array.replicate 460 none
  statics := none }

def pool4 : Array CpInfo := pool [(1, u "java/lang/Cloneable"), (0, .class_ 1), (0, u "java/lang/Object"), (0, .class_ 3)] 3

/-- java/lang/Cloneable -/
def k4 : Class := { plain "java/lang/Cloneable" (some 0) with
  accessFlags := 1537
  interfaces := #[]
  cf := some (fileOf pool4 2 #[] #[] 1537 4 #[] #[])
  fields := #[]
  methods := #[]
  instanceTypes := #[]
  staticTypes := #[]
  resolved := Array.replicate 8 none
  statics := none }

def pool5 : Array CpInfo := pool [(1, u "java/io/Serializable"), (0, .class_ 1), (0, u "java/lang/Object"), (0, .class_ 3)] 3

/-- java/io/Serializable -/
def k5 : Class := { plain "java/io/Serializable" (some 0) with
  accessFlags := 1537
  interfaces := #[]
  cf := some (fileOf pool5 2 #[] #[] 1537 4 #[] #[])
  fields := #[]
  methods := #[]
  instanceTypes := #[]
  staticTypes := #[]
  resolved := Array.replicate 8 none
  statics := none }

/-- the primitive byte -/
def k6 : Class := { plain "byte" none with kind := .primitive 'B', accessFlags := 0x411 }
/-- [B -/
def k7 : Class := { plain "[B" (some 0) with kind := .array 6 .byte, interfaces := #[4, 5], accessFlags := 1041 }

/-- the primitive char -/
def k8 : Class := { plain "char" none with kind := .primitive 'C', accessFlags := 0x411 }
/-- [C -/
def k9 : Class := { plain "[C" (some 0) with kind := .array 8 .char, interfaces := #[4, 5], accessFlags := 1041 }

/-- the primitive int -/
def k10 : Class := { plain "int" none with kind := .primitive 'I', accessFlags := 0x411 }
/-- [I -/
def k11 : Class := { plain "[I" (some 0) with kind := .array 10 .int, interfaces := #[4, 5], accessFlags := 1041 }

/-- the primitive long -/
def k12 : Class := { plain "long" none with kind := .primitive 'J', accessFlags := 0x411 }
/-- [J -/
def k13 : Class := { plain "[J" (some 0) with kind := .array 12 .long, interfaces := #[4, 5], accessFlags := 1041 }

def heap : Heap := #[]
def classes : Array Class := #[k0, k1, k2, k3, k4, k5, k6, k7, k8, k9, k10, k11, k12, k13]
def interned : List (Array UInt16 × Addr) := []
def slotsUsed : Nat := 0
def theMethod : MethodId := ⟨1, 2⟩
def args0 : Array Value := #[.int 5, .int 5, .int 5, .int 5, .int 5, .int 5]
def aboutOver (below : List Frame) : State where
  vm := { classes := classes, interned := interned.toArray }
  heap := heap
  slotsUsed := slotsUsed
  threads := #[{ frames := .invoking theMethod args0 :: below }]
def below0 : List Frame := [.native { method := ⟨0, 0⟩, args := #[] }]
def about1 : State := aboutOver below0
def p0 : Program := .bare "" "" ""
def e0 : Env := launch0.env 0 0 0
theorem w_frames : about1.frames = Frame.invoking theMethod args0 :: below0 := rfl
set_option maxRecDepth 65536 in
theorem w_args : argsFit about1.vm theMethod args0 = true := by decide +kernel
set_option maxRecDepth 65536 in
theorem w_heap : heapFits about1 = true := by decide +kernel
set_option maxRecDepth 65536 in
theorem w_runnable : about1.curStatus? = some .runnable := by decide +kernel
set_option maxRecDepth 65536 in
theorem w_alone : about1.alone = true := by decide +kernel
set_option maxRecDepth 65536 in
theorem w_named : about1.methodNamed? x = some theMethod := by decide +kernel
set_option maxRecDepth 65536 in
theorem w_hears : about1.hears theMethod below0 = true := by decide +kernel
set_option maxRecDepth 65536 in
theorem w_ripe : about1.ripe theMethod args0 below0 = true := by decide +kernel
theorem w_running : about1.status = .running := rfl
set_option maxRecDepth 65536 in
theorem w_room : about1.hasRoom e0.platform room_1 = true :=
  launch0.hasRoom_least _ room_1 (by decide +kernel) (by decide +kernel) (by decide +kernel) (by decide +kernel) (by decide +kernel) (by decide +kernel)
theorem allAtoms_all (ts : List Jvm.Cond) (a : Array Jvm.Value) (st : Jvm.State) : (allAtoms ts).before a st = ts.all (fun c => c.before a st) := by
  induction ts with
  | nil => rfl
  | cons c t ih =>
    show (Jvm.Cond.and c (allAtoms t)).before a st = _
    rw [Jvm.Cond.before_and, ih, List.all_cons]
def words1 : List Jvm.Cond := Jvm.Cond.code x code maxLocals ret :: tables_1
/-- a 'code' word, met by the world's own term for the bytes: nothing is compared byte by byte -/
theorem code_word {y : MethodName} {bytes : ByteArray} {mx : Nat} {rt : Option FieldType} {a : Array Value} {s : State} {m : MethodId} {meth : Method} {c : Code} (h1 : s.methodNamed? y = some m) (h2 : s.vm.method? m = some meth) (h3 : meth.code = some c) (h4 : c.code = bytes)
    (h5 : (c.maxLocals == mx && c.exceptionTable.isEmpty && decide (c.maxStack ≤ mostOperands) && decide (meth.sig.returnType = rt) && !meth.locks && decide (parseMethodDescriptor y.desc = some meth.sig)) = true) : (Jvm.Cond.code y bytes mx rt).before a s = true := by
  simp only [Bool.and_eq_true, beq_iff_eq, Bool.not_eq_true', decide_eq_true_eq] at h5
  obtain ⟨⟨⟨⟨⟨g1, g2⟩, g3⟩, g4⟩, g5⟩, g6⟩ := h5
  simp [Cond.before, Cond.holds, Cond.value, h1, h2, h3, h4, g1, g2, g3, g4, g5, g6]
def isCode : Jvm.Cond → Bool
  | .code _ _ _ _ => true
  | _ => false
theorem all_split {L : List Jvm.Cond} {P : Jvm.Cond → Bool} (h1 : L.all (fun c => isCode c || P c) = true) (h2 : ∀ c ∈ L.filter isCode, P c = true) : L.all P = true := by
  refine List.all_eq_true.mpr fun c hc => ?_
  have h := List.all_eq_true.mp h1 c hc
  rcases Bool.eq_false_or_eq_true (isCode c) with hi | hi
  · exact h2 c (List.mem_filter.mpr ⟨hc, hi⟩)
  · simpa [hi] using h
set_option maxRecDepth 65536 in
theorem w_c0 : (Jvm.Cond.code x code maxLocals ret).before args0 about1 = true := code_word (m := ⟨1, 2⟩) (meth := k1m2) (c := k1c2) (by decide +kernel) rfl rfl rfl (by decide +kernel)
set_option maxRecDepth 65536 in
theorem w_c1 : (Jvm.Cond.code ({ cls := "com/example/runnel/runnel/io/LineCounterEndLastLinePinLaw", name := "ch", desc := "(I)C" } : Jvm.MethodName) method_2_code (2 : Nat) (Option.some Jvm.ClassFile.FieldType.char)).before args0 about1 = true := code_word (m := ⟨1, 1⟩) (meth := k1m1) (c := k1c1) (by decide +kernel) rfl rfl rfl (by decide +kernel)
set_option maxRecDepth 65536 in
theorem w_c2 : (Jvm.Cond.code ({ cls := "com/example/runnel/runnel/io/LineCounter", name := "<init>", desc := "(I)V" } : Jvm.MethodName) prog_13_method_1_code (2 : Nat) (Option.none : Option Jvm.ClassFile.FieldType)).before args0 about1 = true := code_word (m := ⟨2, 0⟩) (meth := k2m0) (c := k2c0) (by decide +kernel) rfl rfl rfl (by decide +kernel)
set_option maxRecDepth 65536 in
theorem w_c3 : (Jvm.Cond.code ({ cls := "java/lang/Object", name := "<init>", desc := "()V" } : Jvm.MethodName) object_method_1_code (1 : Nat) (Option.none : Option Jvm.ClassFile.FieldType)).before args0 about1 = true := code_word (m := ⟨0, 0⟩) (meth := k0m0) (c := k0c0) (by decide +kernel) rfl rfl rfl (by decide +kernel)
set_option maxRecDepth 65536 in
theorem w_c4 : (Jvm.Cond.code ({ cls := "com/example/runnel/runnel/io/LineCounter", name := "count", desc := "([CII)V" } : Jvm.MethodName) prog_13_method_6_code (4 : Nat) (Option.none : Option Jvm.ClassFile.FieldType)).before args0 about1 = true := code_word (m := ⟨2, 5⟩) (meth := k2m5) (c := k2c5) (by decide +kernel) rfl rfl rfl (by decide +kernel)
set_option maxRecDepth 65536 in
theorem w_c5 : (Jvm.Cond.code ({ cls := "com/example/runnel/runnel/io/LineCounter", name := "count", desc := "([CIII)V" } : Jvm.MethodName) prog_13_method_7_code (8 : Nat) (Option.none : Option Jvm.ClassFile.FieldType)).before args0 about1 = true := code_word (m := ⟨2, 6⟩) (meth := k2m6) (c := k2c6) (by decide +kernel) rfl rfl rfl (by decide +kernel)
set_option maxRecDepth 65536 in
theorem w_c6 : (Jvm.Cond.code ({ cls := "java/lang/Math", name := "max", desc := "(II)I" } : Jvm.MethodName) jdk_29_method_65_code (2 : Nat) (Option.some Jvm.ClassFile.FieldType.int)).before args0 about1 = true := code_word (m := ⟨3, 1⟩) (meth := k3m1) (c := k3c1) (by decide +kernel) rfl rfl rfl (by decide +kernel)
set_option maxRecDepth 65536 in
theorem w_c7 : (Jvm.Cond.code ({ cls := "com/example/runnel/runnel/io/LineCounter", name := "advance", desc := "([CII)V" } : Jvm.MethodName) prog_13_method_16_code (10 : Nat) (Option.none : Option Jvm.ClassFile.FieldType)).before args0 about1 = true := code_word (m := ⟨2, 9⟩) (meth := k2m9) (c := k2c9) (by decide +kernel) rfl rfl rfl (by decide +kernel)
set_option maxRecDepth 65536 in
theorem w_c8 : (Jvm.Cond.code ({ cls := "com/example/runnel/runnel/io/LineCounter", name := "lineNumber", desc := "()J" } : Jvm.MethodName) prog_13_method_3_code (1 : Nat) (Option.some Jvm.ClassFile.FieldType.long)).before args0 about1 = true := code_word (m := ⟨2, 2⟩) (meth := k2m2) (c := k2c2) (by decide +kernel) rfl rfl rfl (by decide +kernel)
set_option maxRecDepth 65536 in
theorem w_c9 : (Jvm.Cond.code ({ cls := "com/example/runnel/runnel/io/LineCounter", name := "column", desc := "()J" } : Jvm.MethodName) prog_13_method_4_code (1 : Nat) (Option.some Jvm.ClassFile.FieldType.long)).before args0 about1 = true := code_word (m := ⟨2, 3⟩) (meth := k2m3) (c := k2c3) (by decide +kernel) rfl rfl rfl (by decide +kernel)
set_option maxRecDepth 65536 in
theorem w_c10 : (Jvm.Cond.code ({ cls := "com/example/runnel/runnel/io/LineCounter", name := "endLastLine", desc := "()V" } : Jvm.MethodName) prog_13_method_11_code (1 : Nat) (Option.none : Option Jvm.ClassFile.FieldType)).before args0 about1 = true := code_word (m := ⟨2, 7⟩) (meth := k2m7) (c := k2c7) (by decide +kernel) rfl rfl rfl (by decide +kernel)
set_option maxRecDepth 65536 in
theorem w_c11 : (Jvm.Cond.code ({ cls := "com/example/runnel/runnel/io/LineCounter", name := "count", desc := "(C)V" } : Jvm.MethodName) prog_13_method_5_code (2 : Nat) (Option.none : Option Jvm.ClassFile.FieldType)).before args0 about1 = true := code_word (m := ⟨2, 4⟩) (meth := k2m4) (c := k2c4) (by decide +kernel) rfl rfl rfl (by decide +kernel)
set_option maxRecDepth 65536 in
theorem w_c12 : (Jvm.Cond.code ({ cls := "com/example/runnel/runnel/io/LineCounter", name := "advance", desc := "(C)V" } : Jvm.MethodName) prog_13_method_19_code (2 : Nat) (Option.none : Option Jvm.ClassFile.FieldType)).before args0 about1 = true := code_word (m := ⟨2, 10⟩) (meth := k2m10) (c := k2c10) (by decide +kernel) rfl rfl rfl (by decide +kernel)
set_option maxRecDepth 65536 in
theorem w_c13 : (Jvm.Cond.code ({ cls := "com/example/runnel/runnel/io/LineCounter", name := "isTerminator", desc := "(C)Z" } : Jvm.MethodName) prog_13_method_2_code (1 : Nat) (Option.some Jvm.ClassFile.FieldType.boolean)).before args0 about1 = true := code_word (m := ⟨2, 1⟩) (meth := k2m1) (c := k2c1) (by decide +kernel) rfl rfl rfl (by decide +kernel)
set_option maxRecDepth 65536 in
theorem w_c14 : (Jvm.Cond.code ({ cls := "com/example/runnel/runnel/io/LineCounter", name := "remember", desc := "()V" } : Jvm.MethodName) prog_13_method_20_code (1 : Nat) (Option.none : Option Jvm.ClassFile.FieldType)).before args0 about1 = true := code_word (m := ⟨2, 11⟩) (meth := k2m11) (c := k2c11) (by decide +kernel) rfl rfl rfl (by decide +kernel)
set_option maxRecDepth 65536 in
theorem w_c15 : (Jvm.Cond.code ({ cls := "com/example/runnel/runnel/io/LineCounter", name := "writeRing", desc := "()V" } : Jvm.MethodName) prog_13_method_15_code (3 : Nat) (Option.none : Option Jvm.ClassFile.FieldType)).before args0 about1 = true := code_word (m := ⟨2, 8⟩) (meth := k2m8) (c := k2c8) (by decide +kernel) rfl rfl rfl (by decide +kernel)
def codes1 : List Jvm.Cond := [Jvm.Cond.code x code maxLocals ret, Jvm.Cond.code ({ cls := "com/example/runnel/runnel/io/LineCounterEndLastLinePinLaw", name := "ch", desc := "(I)C" } : Jvm.MethodName) method_2_code (2 : Nat) (Option.some Jvm.ClassFile.FieldType.char), Jvm.Cond.code ({ cls := "com/example/runnel/runnel/io/LineCounter", name := "<init>", desc := "(I)V" } : Jvm.MethodName) prog_13_method_1_code (2 : Nat) (Option.none : Option Jvm.ClassFile.FieldType), Jvm.Cond.code ({ cls := "java/lang/Object", name := "<init>", desc := "()V" } : Jvm.MethodName) object_method_1_code (1 : Nat) (Option.none : Option Jvm.ClassFile.FieldType), Jvm.Cond.code ({ cls := "com/example/runnel/runnel/io/LineCounter", name := "count", desc := "([CII)V" } : Jvm.MethodName) prog_13_method_6_code (4 : Nat) (Option.none : Option Jvm.ClassFile.FieldType), Jvm.Cond.code ({ cls := "com/example/runnel/runnel/io/LineCounter", name := "count", desc := "([CIII)V" } : Jvm.MethodName) prog_13_method_7_code (8 : Nat) (Option.none : Option Jvm.ClassFile.FieldType), Jvm.Cond.code ({ cls := "java/lang/Math", name := "max", desc := "(II)I" } : Jvm.MethodName) jdk_29_method_65_code (2 : Nat) (Option.some Jvm.ClassFile.FieldType.int), Jvm.Cond.code ({ cls := "com/example/runnel/runnel/io/LineCounter", name := "advance", desc := "([CII)V" } : Jvm.MethodName) prog_13_method_16_code (10 : Nat) (Option.none : Option Jvm.ClassFile.FieldType), Jvm.Cond.code ({ cls := "com/example/runnel/runnel/io/LineCounter", name := "lineNumber", desc := "()J" } : Jvm.MethodName) prog_13_method_3_code (1 : Nat) (Option.some Jvm.ClassFile.FieldType.long), Jvm.Cond.code ({ cls := "com/example/runnel/runnel/io/LineCounter", name := "column", desc := "()J" } : Jvm.MethodName) prog_13_method_4_code (1 : Nat) (Option.some Jvm.ClassFile.FieldType.long), Jvm.Cond.code ({ cls := "com/example/runnel/runnel/io/LineCounter", name := "endLastLine", desc := "()V" } : Jvm.MethodName) prog_13_method_11_code (1 : Nat) (Option.none : Option Jvm.ClassFile.FieldType), Jvm.Cond.code ({ cls := "com/example/runnel/runnel/io/LineCounter", name := "count", desc := "(C)V" } : Jvm.MethodName) prog_13_method_5_code (2 : Nat) (Option.none : Option Jvm.ClassFile.FieldType), Jvm.Cond.code ({ cls := "com/example/runnel/runnel/io/LineCounter", name := "advance", desc := "(C)V" } : Jvm.MethodName) prog_13_method_19_code (2 : Nat) (Option.none : Option Jvm.ClassFile.FieldType), Jvm.Cond.code ({ cls := "com/example/runnel/runnel/io/LineCounter", name := "isTerminator", desc := "(C)Z" } : Jvm.MethodName) prog_13_method_2_code (1 : Nat) (Option.some Jvm.ClassFile.FieldType.boolean), Jvm.Cond.code ({ cls := "com/example/runnel/runnel/io/LineCounter", name := "remember", desc := "()V" } : Jvm.MethodName) prog_13_method_20_code (1 : Nat) (Option.none : Option Jvm.ClassFile.FieldType), Jvm.Cond.code ({ cls := "com/example/runnel/runnel/io/LineCounter", name := "writeRing", desc := "()V" } : Jvm.MethodName) prog_13_method_15_code (3 : Nat) (Option.none : Option Jvm.ClassFile.FieldType)]
set_option maxRecDepth 65536 in
theorem codes_eq : words1.filter isCode = codes1 := rfl
theorem w_codes : ∀ c ∈ words1.filter isCode, c.before args0 about1 = true := by
  rw [codes_eq]
  intro c hc
  simp only [codes1, List.mem_cons, List.not_mem_nil, or_false] at hc
  rcases hc with rfl | rfl | rfl | rfl | rfl | rfl | rfl | rfl | rfl | rfl | rfl | rfl | rfl | rfl | rfl | rfl
  · exact w_c0
  · exact w_c1
  · exact w_c2
  · exact w_c3
  · exact w_c4
  · exact w_c5
  · exact w_c6
  · exact w_c7
  · exact w_c8
  · exact w_c9
  · exact w_c10
  · exact w_c11
  · exact w_c12
  · exact w_c13
  · exact w_c14
  · exact w_c15
set_option maxRecDepth 65536 in
theorem w_t1 : (words1.take 24).all (fun c => isCode c || c.before args0 about1) = true := by decide +kernel
set_option maxRecDepth 65536 in
theorem w_t2 : ((words1.drop 24).take 24).all (fun c => isCode c || c.before args0 about1) = true := by decide +kernel
set_option maxRecDepth 65536 in
theorem w_t3 : (((words1.drop 24).drop 24).take 24).all (fun c => isCode c || c.before args0 about1) = true := by decide +kernel
set_option maxRecDepth 65536 in
theorem w_t4 : (((words1.drop 24).drop 24).drop 24).all (fun c => isCode c || c.before args0 about1) = true := by decide +kernel
theorem w_tables : (allAtoms (Jvm.Cond.code x code maxLocals ret :: tables_1)).before args0 about1 = true := by
  rw [allAtoms_all]
  show words1.all (fun c => c.before args0 about1) = true
  refine all_split ?_ w_codes
  rw [← List.take_append_drop 24 words1, List.all_append, w_t1, ← List.take_append_drop 24 (words1.drop 24), List.all_append, w_t2, ← List.take_append_drop 24 ((words1.drop 24).drop 24), List.all_append, w_t3, w_t4]
  rfl
set_option maxRecDepth 65536 in
theorem w_case : (Jvm.Cond.and given_1 narrow_1).before args0 about1 = true := by decide +kernel
theorem w_applies : (headSpec (Jvm.Cond.code x code maxLocals ret :: tables_1) room_1).applies x e0.platform about1 = true :=
  (Spec.applies_iff w_frames).mpr ⟨w_running, w_runnable, w_alone, w_named, w_hears, w_ripe, w_room, w_tables⟩
theorem atStart : AtStart classFile x code maxLocals ret World_1 tables_1 room_1 Calls_1 rest_1 Pre_1 launch0 p0 e0 about1 theMethod args0 below0 :=
  ⟨lists_1, trivial, launch0.admits_env _ _ _, launch0.least_env, fairChoices_fair.cas, fairChoices_fair.clock, w_frames, w_args, w_heap, w_applies, trivial, trivial, w_case⟩
end start1
theorem witness_1 : WitnessClaimed_1 := ⟨start1.p0, start1.e0, start1.about1, start1.theMethod, start1.args0, start1.below0, start1.atStart⟩
end Jvm.Pilot.@@N@@
