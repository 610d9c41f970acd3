import JvmDerived
import JvmDerived.Pilot.@@N@@Statement
import JvmDerived.Pilot.@@N@@Code
set_option linter.unusedVariables false
set_option linter.unusedSimpArgs false
namespace Jvm.OwnKit
open Sem ClassFile Op Lib Jvm.Stand Jvm.Free Jvm.LawKit Jvm.RoadKit
/-! my own layer: an abstract heap of the objects and arrays that the law makes, and a run that goes on to its end -/
abbrev AH : Type := List (Nat × List Value)
abbrev Dic : Type := Nat → String × List (String × String × String)
def lf (n0 : Nat) : Value → Value
  | .ref i => .ref (n0 + i)
  | v => v
def aty : Nat → FieldType
  | 0 => .int
  | 1 => .char
  | 2 => .byte
  | 3 => .long
  | 4 => .boolean
  | _ => .short
def asI : Option Value → Option Int32
  | some (.int x) => some x
  | _ => none
def asJ : Option Value → Option Int64
  | some (.long x) => some x
  | _ => none
def asR : Option Value → Option Nat
  | some (.ref x) => some x
  | _ => none
theorem asI_s {o : Option Value} {x : Int32} (h : asI o = some x) : o = some (.int x) := by
  unfold asI at h; split at h <;> simp_all
theorem asJ_s {o : Option Value} {x : Int64} (h : asJ o = some x) : o = some (.long x) := by
  unfold asJ at h; split at h <;> simp_all
theorem asR_s {o : Option Value} {x : Nat} (h : asR o = some x) : o = some (.ref x) := by
  unfold asR at h; split at h <;> simp_all
/-- a field, a component: read, written -/
def h_fget (A : AH) (t a k : Nat) : Option Value := match A[a]? with
  | some (t', vs) => if t' = t then vs[k]? else none
  | none => none
def h_fset (A : AH) (t a k : Nat) (v : Value) : Option AH := match A[a]? with
  | some (t', vs) => if t' = t ∧ k < vs.length then some (A.set a (t', vs.set k v)) else none
  | none => none
def h_aget (A : AH) (t a : Nat) (j : Int32) : Option Value := if j < 0 then none else h_fget A t a j.toNatClampNeg
def h_aset (A : AH) (t a : Nat) (j : Int32) (v : Value) : Option AH := if j < 0 then none else h_fset A t a j.toNatClampNeg v
def h_alen (A : AH) (t a : Nat) : Option Int32 := match A[a]? with
  | some (t', vs) => if t' = t then some vs.length.toInt32 else none
  | none => none
def h_onew (A : AH) (t : Nat) (ds : List Value) : Option (Nat × AH) := some (A.length, A ++ [(t, ds)])
def h_anew (A : AH) (t cap : Nat) (n : Int32) (d : Value) : Option (Nat × AH) := if n < 0 ∨ cap < n.toNatClampNeg then none else some (A.length, A ++ [(t, List.replicate n.toNatClampNeg d)])
/-- System.arraycopy between two arrays of one primitive kind -/
def h_acp (A : AH) (t a b : Nat) (sp dp n : Int32) : Option AH := match A[a]?, A[b]? with
  | some (t1, vs), some (t2, vd) => if t1 = t ∧ t2 = t ∧ ¬ sp < 0 ∧ ¬ dp < 0 ∧ ¬ n < 0 ∧ sp.toNatClampNeg + n.toNatClampNeg ≤ vs.length ∧ dp.toNatClampNeg + n.toNatClampNeg ≤ vd.length then some (A.set b (t, vd.take dp.toNatClampNeg ++ (vs.drop sp.toNatClampNeg).take n.toNatClampNeg ++ vd.drop (dp.toNatClampNeg + n.toNatClampNeg))) else none
  | _, _ => none
def h_isA (A : AH) (t a : Nat) : Option Unit := match A[a]? with
  | some (t', _) => if t' = t then some () else none
  | none => none
/-- what the heap holds of them -/
def OKa (Z : State) (h : Heap) (a : Addr) (ty : FieldType) (vs : List Value) : Prop := ∃ cl : Cell, Arr Z h a cl ty ∧ cl.slots.toList = vs ∧ vs.length < 2 ^ 31 ∧ ∀ v ∈ vs, fits ty v = true
def OKo (Z : State) (h : Heap) (a : Addr) (C : String) (L : List (String × String × String)) (vs : List Value) : Prop := Exa Z h a C ∧ ∀ (k : Nat) (O n d : String) (v : Value), L[k]? = some (O, n, d) → vs[k]? = some v → Fld Z h a O n d v
def OKx (D : Dic) (Z : State) (h : Heap) (a : Addr) (t : Nat) (vs : List Value) : Prop := (t < 10 → OKa Z h a (aty t) vs) ∧ (10 ≤ t → OKo Z h a (D t).1 (D t).2 vs)
def Rep (D : Dic) (Z : State) (n0 : Nat) (h : Heap) (A : AH) : Prop := h.size = n0 + A.length ∧ ∀ (i t : Nat) (vs : List Value), A[i]? = some (t, vs) → OKx D Z h (n0 + i) t (vs.map (lf n0))
def Sep (Z : State) (L : List (String × String × String)) : Prop := ∀ (k k' : Nat) (O n d O' n' d' : String), L[k]? = some (O, n, d) → L[k']? = some (O', n', d') → k ≠ k' → Jvm.RoadKit.slotOf Z O n d ≠ Jvm.RoadKit.slotOf Z O' n' d'
theorem Sep.nil {Z : State} : Sep Z [] := fun k k' O n d O' n' d' h => by simp at h
theorem sep_of {Z : State} {a0 : Array Value} {C : String} {L : List (String × String × String)} (hl : ∀ x ∈ L, Laid Z a0 C x.1 x.2.1 x.2.2 ∧ (parseFieldDescriptor x.2.2).isSome = true) (hn : (L.map fun x => x.2.1).Nodup) : Sep Z L := by
  intro k k' O n d O' n' d' h h' ne
  obtain ⟨l1, p1⟩ := hl _ (List.mem_of_getElem? h)
  obtain ⟨l2, p2⟩ := hl _ (List.mem_of_getElem? h')
  obtain ⟨t1, e1⟩ := Option.isSome_iff_exists.mp p1
  obtain ⟨t2, e2⟩ := Option.isSome_iff_exists.mp p2
  refine slot_ne l1 l2 ?_ e1 e2
  intro q
  obtain ⟨b1, g1⟩ := List.getElem?_eq_some_iff.mp h
  obtain ⟨b2, g2⟩ := List.getElem?_eq_some_iff.mp h'
  refine ne ((List.getElem_inj (xs := L.map fun x => x.2.1) (h₀ := by simpa using b1) (h₁ := by simpa using b2) hn).mp ?_)
  simp only [List.getElem_map, g1, g2]; exact q
section Facts
variable {D : Dic} {Z : State} {n0 : Nat} {h h' : Heap} {A A' : AH} {t a k : Nat} {v : Value}
theorem fget_s (hg : h_fget A t a k = some v) : ∃ vs, A[a]? = some (t, vs) ∧ vs[k]? = some v := by
  unfold h_fget at hg; split at hg
  · rename_i t' vs e
    split at hg
    · rename_i q; subst q; exact ⟨vs, e, hg⟩
    · cases hg
  · cases hg
theorem fset_s (hg : h_fset A t a k v = some A') : ∃ vs, A[a]? = some (t, vs) ∧ k < vs.length ∧ A' = A.set a (t, vs.set k v) := by
  unfold h_fset at hg; split at hg
  · rename_i t' vs e
    split at hg
    · rename_i q; obtain ⟨rfl, q⟩ := q; exact ⟨vs, e, q, (Option.some.inj hg).symm⟩
    · cases hg
  · cases hg
theorem aget_s {j : Int32} (hg : h_aget A t a j = some v) : ¬ j < 0 ∧ h_fget A t a j.toNatClampNeg = some v := by
  unfold h_aget at hg; split at hg
  · cases hg
  · exact ⟨by assumption, hg⟩
theorem aset_s {j : Int32} (hg : h_aset A t a j v = some A') : ¬ j < 0 ∧ h_fset A t a j.toNatClampNeg v = some A' := by
  unfold h_aset at hg; split at hg
  · cases hg
  · exact ⟨by assumption, hg⟩
theorem isA_s {u : Unit} (hg : h_isA A t a = some u) : ∃ vs, A[a]? = some (t, vs) := by
  unfold h_isA at hg; split at hg
  · rename_i t' vs e
    split at hg
    · rename_i q; subst q; exact ⟨vs, e⟩
    · cases hg
  · cases hg
theorem Rep.exa (RA : Rep D Z n0 h A) (ht : 10 ≤ t) {vs : List Value} (hA : A[a]? = some (t, vs)) : Exa Z h (n0 + a) (D t).1 := ((RA.2 a t vs hA).2 ht).1
theorem Rep.fld (RA : Rep D Z n0 h A) (ht : 10 ≤ t) (hg : h_fget A t a k = some v) {O n d : String} (hk : (D t).2[k]? = some (O, n, d)) : Fld Z h (n0 + a) O n d (lf n0 v) := by
  obtain ⟨vs, e, q⟩ := fget_s hg
  exact ((RA.2 a t vs e).2 ht).2 k O n d _ hk (by simp [q])
theorem Rep.arr (RA : Rep D Z n0 h A) (ht : t < 10) {vs : List Value} (hA : A[a]? = some (t, vs)) : ∃ cl : Cell, Arr Z h (n0 + a) cl (aty t) ∧ cl.slots.toList = vs.map (lf n0) ∧ vs.length < 2 ^ 31 ∧ ∀ v ∈ vs.map (lf n0), fits (aty t) v = true := by
  obtain ⟨cl, h1, h2, h3, h4⟩ := (RA.2 a t vs hA).1 ht
  exact ⟨cl, h1, h2, by simpa using h3, h4⟩
theorem Rep.at (RA : Rep D Z n0 h A) (ht : t < 10) {j : Int32} (hg : h_aget A t a j = some v) : ∃ cl : Cell, Arr Z h (n0 + a) cl (aty t) ∧ ¬ (j < 0 ∨ cl.slots.size ≤ j.toNatClampNeg) ∧ cl.slots[j.toNatClampNeg]? = some (lf n0 v) := by
  obtain ⟨hj, hg⟩ := aget_s hg
  obtain ⟨vs, e, q⟩ := fget_s hg
  obtain ⟨cl, h1, h2, -⟩ := RA.arr ht e
  have h4 : cl.slots[j.toNatClampNeg]? = some (lf n0 v) := by rw [← Array.getElem?_toList, h2]; simp [q]
  refine ⟨cl, h1, ?_, h4⟩
  rintro (c | c)
  · exact hj c
  · exact absurd (Array.getElem?_eq_some_iff.mp h4).1 (Nat.not_lt.mpr c)
theorem OKx.other {sl : Nat} {w : Value} {b : Addr} {vs : List Value} (X : OKx D Z h b t vs) (W : Wr h h' a sl w) (ne : b ≠ a) : OKx D Z h' b t vs := by
  refine ⟨fun q => ?_, fun q => ?_⟩
  · obtain ⟨cl, h1, h2⟩ := X.1 q; exact ⟨cl, h1.other W ne, h2⟩
  · obtain ⟨h1, h2⟩ := X.2 q; exact ⟨h1.wr W, fun k O n d v e1 e2 => (h2 k O n d v e1 e2).other W (Or.inl ne)⟩
theorem Rep.set (RA : Rep D Z n0 h A) {sl : Nat} {w : Value} {vs : List Value} (hl : a < A.length) (W : Wr h h' (n0 + a) sl w) (hN : OKx D Z h' (n0 + a) t (vs.map (lf n0))) : Rep D Z n0 h' (A.set a (t, vs)) := by
  refine ⟨by rw [W.size, RA.1, List.length_set], fun i t' vs' e => ?_⟩
  by_cases q : a = i
  · subst q
    rw [List.getElem?_set_self hl] at e
    obtain ⟨rfl, rfl⟩ := Prod.mk.inj (Option.some.inj e); exact hN
  · rw [List.getElem?_set_ne q] at e
    exact (RA.2 i t' vs' e).other W (fun z => q (Nat.add_left_cancel z).symm)
theorem Rep.wrF (sep : Sep Z (D t).2) (RA : Rep D Z n0 h A) (ht : 10 ≤ t) (hp : h_fset A t a k v = some A') {O n d : String} (hk : (D t).2[k]? = some (O, n, d)) (W : Wr h h' (n0 + a) (Jvm.RoadKit.slotOf Z O n d) (lf n0 v)) : Rep D Z n0 h' A' := by
  obtain ⟨vs, e, q, rfl⟩ := fset_s hp
  refine RA.set (List.getElem?_eq_some_iff.mp e).1 W ⟨fun z => absurd ht (by omega), fun _ => ?_⟩
  obtain ⟨h1, h2⟩ := (RA.2 a t vs e).2 ht
  refine ⟨h1.wr W, fun k' O' n' d' v' e1 e2 => ?_⟩
  rw [List.map_set] at e2
  by_cases c : k = k'
  · subst c
    rw [List.getElem?_set_self (by simpa using q)] at e2
    cases hk.symm.trans e1
    cases e2
    exact (h2 k O n d _ hk (List.getElem?_eq_getElem (by simpa using q))).same W
  · rw [List.getElem?_set_ne c] at e2
    exact (h2 k' O' n' d' v' e1 e2).other W (Or.inr (sep k' k O' n' d' O n d e1 hk (Ne.symm c)))
theorem Rep.wrA (RA : Rep D Z n0 h A) (ht : t < 10) {j : Int32} (hp : h_aset A t a j v = some A') (hft : fits (aty t) (lf n0 v) = true) (W : Wr h h' (n0 + a) j.toNatClampNeg (lf n0 v)) : Rep D Z n0 h' A' := by
  obtain ⟨-, hp⟩ := aset_s hp
  obtain ⟨vs, e, q, rfl⟩ := fset_s hp
  refine RA.set (List.getElem?_eq_some_iff.mp e).1 W ⟨fun z => ?_, fun z => absurd ht (by omega)⟩
  obtain ⟨cl, h1, h2, h3, h4⟩ := RA.arr ht e
  refine ⟨_, h1.same W, ?_, by simpa using h3, fun u hu => ?_⟩
  · show (cl.slots.setIfInBounds _ _).toList = _
    rw [Array.toList_setIfInBounds, h2, List.map_set]
  · rw [List.map_set] at hu
    rcases List.mem_or_eq_of_mem_set hu with q | q
    · exact h4 u q
    · rw [q]; exact hft
theorem Rep.into (RA : Rep D Z n0 h A) (ht : t < 10) {j : Int32} (hp : h_aset A t a j v = some A') : ∃ cl : Cell, Arr Z h (n0 + a) cl (aty t) ∧ ¬ (j < 0 ∨ cl.slots.size ≤ j.toNatClampNeg) := by
  obtain ⟨hj, hp⟩ := aset_s hp
  obtain ⟨vs, e, q, rfl⟩ := fset_s hp
  obtain ⟨cl, h1, h2, -⟩ := RA.arr ht e
  refine ⟨cl, h1, ?_⟩
  have : cl.slots.size = vs.length := by rw [← Array.length_toList, h2]; simp
  rintro (c | c)
  · exact hj c
  · omega
theorem OKx.ext {b : Addr} {vs : List Value} (X : OKx D Z h b t vs) (E : Ext h h') : OKx D Z h' b t vs := by
  refine ⟨fun q => ?_, fun q => ?_⟩
  · obtain ⟨cl, h1, h2⟩ := X.1 q; exact ⟨cl, h1.ext E, h2⟩
  · obtain ⟨h1, h2⟩ := X.2 q; exact ⟨h1.ext E, fun k O n d v e1 e2 => (h2 k O n d v e1 e2).ext E⟩
theorem ext_push (h : Heap) (cl : Cell) : Ext h (h.push cl) := ⟨by simp, fun a c e => by rw [Array.getElem?_push_lt (Array.getElem?_eq_some_iff.mp e).1]; exact (Array.getElem?_eq_getElem _).symm.trans e⟩
theorem Rep.push (RA : Rep D Z n0 h A) {cl : Cell} {vs : List Value} (hN : OKx D Z (h.push cl) h.size t (vs.map (lf n0))) : Rep D Z n0 (h.push cl) (A ++ [(t, vs)]) := by
  refine ⟨by rw [Array.size_push, RA.1, List.length_append]; rfl, fun i t' vs' e => ?_⟩
  by_cases q : i < A.length
  · rw [List.getElem?_append_left q] at e
    exact (RA.2 i t' vs' e).ext (ext_push h cl)
  · rw [List.getElem?_append_right (Nat.le_of_not_lt q)] at e
    have e0 : i - A.length = 0 := by
      have := (List.getElem?_eq_some_iff.mp e).1; simp at this; omega
    rw [e0] at e
    obtain ⟨rfl, rfl⟩ := Prod.mk.inj (Option.some.inj e)
    have : i = A.length := by omega
    have e2 : n0 + i = h.size := by rw [RA.1, this]
    rw [e2]; exact hN
end Facts
/-! a cell replaced -/
section Cells
variable {D : Dic} {Z : State} {n0 : Nat} {h h' : Heap} {A A' : AH} {t a k : Nat} {v : Value}
theorem OKx.at {b : Addr} {vs : List Value} (X : OKx D Z h b t vs) (e : h'[b]? = h[b]?) : OKx D Z h' b t vs := by
  refine ⟨fun q => ?_, fun q => ?_⟩
  · obtain ⟨cl, h1, h2⟩ := X.1 q; exact ⟨cl, ⟨e.trans h1.1, h1.2⟩, h2⟩
  · obtain ⟨⟨cell, kk, e1, e2⟩, h2⟩ := X.2 q
    refine ⟨⟨cell, kk, e.trans e1, e2⟩, fun j O n d v e3 e4 => ?_⟩
    obtain ⟨c2, cf, k2, i2, f2, g1, g2⟩ := h2 j O n d v e3 e4
    exact ⟨c2, cf, k2, i2, f2, e.trans g1, g2⟩
theorem Rep.cell (RA : Rep D Z n0 h A) {cl : Cell} {vs : List Value} (hl : a < A.length) (hN : OKx D Z (h.setIfInBounds (n0 + a) cl) (n0 + a) t (vs.map (lf n0))) : Rep D Z n0 (h.setIfInBounds (n0 + a) cl) (A.set a (t, vs)) := by
  refine ⟨by rw [Array.size_setIfInBounds, RA.1, List.length_set], fun i t' vs' e => ?_⟩
  by_cases q : a = i
  · subst q
    rw [List.getElem?_set_self hl] at e
    obtain ⟨rfl, rfl⟩ := Prod.mk.inj (Option.some.inj e); exact hN
  · rw [List.getElem?_set_ne q] at e
    exact (RA.2 i t' vs' e).at (Array.getElem?_setIfInBounds_ne (fun z => q (Nat.add_left_cancel z)))
end Cells
/-! reading and writing, in plain words -/
theorem eq64 {x y : Int} (h : (x - y) % 18446744073709551616 = 0) (x1 : -9223372036854775808 ≤ x) (x2 : x < 9223372036854775808) (y1 : -9223372036854775808 ≤ y) (y2 : y < 9223372036854775808) : x = y := by omega
theorem eq32 {x y : Int} (h : (x - y) % 4294967296 = 0) (x1 : -2147483648 ≤ x) (x2 : x < 2147483648) (y1 : -2147483648 ≤ y) (y2 : y < 2147483648) : x = y := by omega
theorem nar1 : nar .boolean (1 : Int32) = 1 := by decide
theorem nar0 : nar .boolean (0 : Int32) = 0 := by decide
theorem nclamp (j : Int32) : j.toNatClampNeg = j.toInt.toNat := rfl
theorem nneg {j : Int32} : ¬ j < 0 ↔ 0 ≤ j.toInt := by rw [Int32.lt_iff_toInt_lt]; show ¬ _ < (0 : Int) ↔ _; omega
theorem aset_ok {A : AH} {t a : Nat} {vs : List Value} {j : Int32} {v : Value} (hA : A[a]? = some (t, vs)) (h0 : 0 ≤ j.toInt) (h1 : j.toInt < vs.length) : h_aset A t a j v = some (A.set a (t, vs.set j.toInt.toNat v)) := by
  unfold h_aset; rw [if_neg (nneg.mpr h0)]; unfold h_fset; rw [hA]; simp only [nclamp]
  have : j.toInt.toNat < vs.length := by omega
  rw [if_pos ⟨trivial, this⟩]
theorem aget_ok {A : AH} {t a : Nat} {vs : List Value} {j : Int32} (hA : A[a]? = some (t, vs)) (h0 : 0 ≤ j.toInt) : h_aget A t a j = vs[j.toInt.toNat]? := by
  unfold h_aget; rw [if_neg (nneg.mpr h0)]; unfold h_fget; rw [hA]; simp only [nclamp, if_true]
theorem anew_ok {A : AH} {t cap : Nat} {n : Int32} {d : Value} (h0 : 0 ≤ n.toInt) (h1 : n.toInt ≤ cap) : h_anew A t cap n d = some (A.length, A ++ [(t, List.replicate n.toInt.toNat d)]) := by
  unfold h_anew; rw [nclamp, if_neg (by rintro (c | c); exact nneg.mpr h0 c; omega)]
theorem aset1 {t : Nat} {vs : List Value} {j : Int32} {v : Value} (h0 : 0 ≤ j.toInt) (h1 : j.toInt < vs.length) : h_aset [(t, vs)] t 0 j v = some [(t, vs.set j.toInt.toNat v)] := aset_ok rfl h0 h1
theorem aget1 {t : Nat} {vs : List Value} {j : Int32} (h0 : 0 ≤ j.toInt) : h_aget [(t, vs)] t 0 j = vs[j.toInt.toNat]? := aget_ok rfl h0
/-! ### a run that goes on to its end -/
def Go (p : Program) (e : Env) (below : List Frame) (S : State) (G : Outcome → State → Prop) : Prop := ∃ t o, Steps p.tables e below S t ∧ t.status = .running ∧ Ended t below o ∧ G o t
def QR (D : Dic) (Z : State) (n0 : Nat) (r : Option Value) (A : AH) (v : Option Value) (h : Heap) (L : List Loc) : Prop := v = r ∧ Fr n0 L ∧ Rep D Z n0 h A
def Fini (D : Dic) (Z : State) (n0 : Nat) (s : State) (R : Room) (r : Option Value) (A : AH) : Outcome → State → Prop := fun o t => ∃ v L, o = .returned v ∧ QR D Z n0 r A v t.heap L ∧ FrameEnd s o t L R.cells R.slots
def On (p : Program) (l : Launch) (e : Env) (R : Room) (s : State) (m : MethodId) (args : Array Value) (below : List Frame) (meth : Method) (c : Code) (D : Dic) (Z : State) (n0 : Nat) (T : State) (A : AH) (cells slots : Nat) : Prop :=
  ∃ locs, Stand p l e R s m args below meth c T locs cells slots ∧ Fr n0 locs ∧ Rep D Z n0 T.heap A
def Cx (p : Program) (l : Launch) (e : Env) (R : Room) (s : State) (m : MethodId) (meth : Method) (c : Code) (Z : State) (a0 : Array Value) (W : List Jvm.Cond) (own nm : String) (bytes : ByteArray) (ml : Nat) (rt : Option FieldType) : Prop :=
  p.tables.exec = Jvm.exec ∧ Z.Warmed39 s.vm ∧ s.vm.findClass own = some m.cls ∧ c.code = bytes ∧ c.maxLocals = ml ∧ meth.sig.returnType = rt ∧ meth.locks = false ∧ meth.name = nm ∧ ∀ d ∈ W, d.before a0 Z = true
def Met (l : Launch) (D : Dic) (Z : State) (n0 : Nat) (y : MethodName) (bytes : ByteArray) (ml : Nat) (rt : Option FieldType) (R : Room) (as : List Value) (A : AH) (r : Option Value) (A' : AH) : Prop :=
  ∀ (ws : List Jvm.Cond) (h0 : Heap), Rep D Z n0 h0 A → MetFree l y (head1 (Jvm.Cond.code y bytes ml rt :: ws) R) (fun a U => a = as.toArray ∧ Z.Warmed39 U.vm ∧ U.heap = h0) (fun _ _ _ _ _ => True) (fun _ U o U' => ∃ v L, o = .returned v ∧ QR D Z n0 r A' v U'.heap L ∧ FrameEnd U o U' L R.cells R.slots)
section Walk
variable {p : Program} {l : Launch} {e : Env} {R : Room} {s : State} {m : MethodId} {args : Array Value} {below : List Frame} {meth : Method} {c : Code} {Z : State} {a0 : Array Value} {W : List Jvm.Cond} {own nm : String} {bytes : ByteArray} {ml : Nat} {rt : Option FieldType} {D : Dic} {n0 : Nat} {T : State} {A A' : AH} {cells slots : Nat} {G : Outcome → State → Prop} {pc : Nat} {Ls : Array Slot} {st : List Value}
theorem go {S S' : State} (h : ∀ t, Steps p.tables e below S' t → Steps p.tables e below S t) (k : Go p e below S' G) : Go p e below S G := by
  obtain ⟨t, o, h1, h2⟩ := k; exact ⟨t, o, h t h1, h2⟩
theorem On.here (X : On p l e R s m args below meth c D Z n0 T A cells slots) : At T m c below := by obtain ⟨_, X, -⟩ := X; exact X.here
theorem On.more {cells' slots' : Nat} (X : On p l e R s m args below meth c D Z n0 T A cells slots) (hc : cells ≤ cells') (hs : slots ≤ slots') : On p l e R s m args below meth c D Z n0 T A cells' slots' := by
  obtain ⟨locs, X, N⟩ := X; exact ⟨locs, X.more hc hs, N⟩
theorem wd {d : Jvm.Cond} (K : Cx p l e R s m meth c Z a0 W own nm bytes ml rt) {i : Nat} (h : W[i]? = some d) : d.before a0 Z = true := K.2.2.2.2.2.2.2.2 d (List.mem_of_getElem? h)
theorem dc (K : Cx p l e R s m meth c Z a0 W own nm bytes ml rt) {r : Except DecodeError (Instr × Nat)} (h : decode bytes pc = r) : decode c.code pc = r := K.2.2.2.1 ▸ h
theorem ldcI (K : Cx p l e R s m meth c Z a0 W own nm bytes ml rt) (X : On p l e R s m args below meth c D Z n0 T A cells slots) {i idx : Nat} {v : Int32} (w : W[i]? = some (.constant own idx v)) (hd : decode bytes pc = .ok (.ldc idx, 2))
    {pc' : Nat} (hp : pc + 2 = pc') (k : Go p e below (T.setTop (mkF m pc'  Ls (.int v :: st))) G) : Go p e below (T.setTop (mkF m pc Ls st)) G := by
  subst hp
  obtain ⟨locs, X, -⟩ := X
  exact go (X.ldcInt K.1 K.2.2.1 (mvT K.2.1 (wd K w)) (g := mkF m pc Ls st) rfl (dc K hd)) k
theorem ldcwI (K : Cx p l e R s m meth c Z a0 W own nm bytes ml rt) (X : On p l e R s m args below meth c D Z n0 T A cells slots) {i idx : Nat} {v : Int32} (w : W[i]? = some (.constant own idx v)) (hd : decode bytes pc = .ok (.ldc_w idx, 3))
    {pc' : Nat} (hp : pc + 3 = pc') (k : Go p e below (T.setTop (mkF m pc'  Ls (.int v :: st))) G) : Go p e below (T.setTop (mkF m pc Ls st)) G := by
  subst hp
  obtain ⟨locs, X, -⟩ := X
  exact go (X.ldcwInt K.1 K.2.2.1 (mvT K.2.1 (wd K w)) (g := mkF m pc Ls st) rfl (dc K hd)) k
theorem ldcL (K : Cx p l e R s m meth c Z a0 W own nm bytes ml rt) (X : On p l e R s m args below meth c D Z n0 T A cells slots) {i idx : Nat} {v : Int64} (w : W[i]? = some (.constantLong own idx v)) (hd : decode bytes pc = .ok (.ldc2_w idx, 3))
    {pc' : Nat} (hp : pc + 3 = pc') (k : Go p e below (T.setTop (mkF m pc'  Ls (.long v :: st))) G) : Go p e below (T.setTop (mkF m pc Ls st)) G := by
  subst hp
  obtain ⟨locs, X, -⟩ := X
  exact go (X.ldc2Long K.1 K.2.2.1 (mvT K.2.1 (wd K w)) (g := mkF m pc Ls st) rfl (dc K hd)) k
/-! the returns -/
theorem retV (K : Cx p l e R s m meth c Z a0 W own nm bytes ml none) (X : On p l e R s m args below meth c D Z n0 T A cells slots) (hc : cells ≤ R.cells) (hs : slots ≤ R.slots) (hd : decode bytes pc = .ok (.return_, 1)) :
    Go p e below (T.setTop (mkF m pc Ls [])) (Fini D Z n0 s R none A) := by
  obtain ⟨locs, X, N, RA⟩ := X
  obtain ⟨fs, hr, hrun, hended, hW, hsame⟩ := X.leave (v := none) (fun _ => rfl) K.2.2.2.2.2.2.1
  exact ⟨_, _, X.returnOut K.1 K.2.2.2.2.2.1 (dc K hd) hr, hrun, hended, none, locs, rfl, ⟨rfl, N, RA⟩, ⟨_, rfl⟩, hW, hsame.mono hc hs⟩
theorem retX {t : FieldType} {i : Instr} {w : Value} (K : Cx p l e R s m meth c Z a0 W own nm bytes ml (some t)) (X : On p l e R s m args below meth c D Z n0 T A cells slots) (hc : cells ≤ R.cells) (hs : slots ≤ R.slots) (hd : decode bytes pc = .ok (i, 1)) (hn : narrow t w = w)
    (hi : (i = .ireturn ∧ (t = .int ∨ t = .boolean ∨ t = .byte ∨ t = .char ∨ t = .short) ∧ ∃ z, w = .int z) ∨ (i = .lreturn ∧ t = .long ∧ ∃ z, w = .long z) ∨ (i = .dreturn ∧ t = .double ∧ ∃ z, w = .double z) ∨ (i = .freturn ∧ t = .float ∧ ∃ z, w = .float z) ∨ (i = .areturn ∧ t.isReference = true ∧ w.isRef = true)) :
    Go p e below (T.setTop (mkF m pc Ls (w :: st))) (Fini D Z n0 s R (some w) A) := by
  obtain ⟨locs, X, N, RA⟩ := X
  obtain ⟨fs, hr, hrun, hended, hW, hsame⟩ := X.leave (v := some w) (fun h => by rw [K.2.2.2.2.2.1] at h; cases h) K.2.2.2.2.2.2.1
  exact ⟨_, _, Jvm.RoadKit.retOut X K.1 K.2.2.2.2.2.1 hn hi (dc K hd) hr, hrun, hended, some w, locs, rfl, ⟨rfl, N, RA⟩, ⟨_, rfl⟩, hW, hsame.mono hc hs⟩
theorem retI {z : Int32} (K : Cx p l e R s m meth c Z a0 W own nm bytes ml (some .int)) (X : On p l e R s m args below meth c D Z n0 T A cells slots) (hc : cells ≤ R.cells) (hs : slots ≤ R.slots) (hd : decode bytes pc = .ok (.ireturn, 1)) :
    Go p e below (T.setTop (mkF m pc Ls (.int z :: st))) (Fini D Z n0 s R (some (.int z)) A) := retX K X hc hs hd rfl (Or.inl ⟨rfl, Or.inl rfl, z, rfl⟩)
theorem retJ {z : Int64} (K : Cx p l e R s m meth c Z a0 W own nm bytes ml (some .long)) (X : On p l e R s m args below meth c D Z n0 T A cells slots) (hc : cells ≤ R.cells) (hs : slots ≤ R.slots) (hd : decode bytes pc = .ok (.lreturn, 1)) :
    Go p e below (T.setTop (mkF m pc Ls (.long z :: st))) (Fini D Z n0 s R (some (.long z)) A) := retX K X hc hs hd rfl (Or.inr (Or.inl ⟨rfl, rfl, z, rfl⟩))
theorem retR {a : Addr} {t : FieldType} (K : Cx p l e R s m meth c Z a0 W own nm bytes ml (some t)) (ht : t.isReference = true) (hn : narrow t (.ref a) = .ref a) (X : On p l e R s m args below meth c D Z n0 T A cells slots) (hc : cells ≤ R.cells) (hs : slots ≤ R.slots) (hd : decode bytes pc = .ok (.areturn, 1)) :
    Go p e below (T.setTop (mkF m pc Ls (.ref a :: st))) (Fini D Z n0 s R (some (.ref a)) A) := retX K X hc hs hd hn (Or.inr (Or.inr (Or.inr (Or.inr ⟨rfl, ht, rfl⟩))))
theorem retB {z : Int32} {t : FieldType} (K : Cx p l e R s m meth c Z a0 W own nm bytes ml (some t)) (ht : t = .boolean ∨ t = .byte ∨ t = .char ∨ t = .short) (X : On p l e R s m args below meth c D Z n0 T A cells slots) (hc : cells ≤ R.cells) (hs : slots ≤ R.slots) (hd : decode bytes pc = .ok (.ireturn, 1)) :
    Go p e below (T.setTop (mkF m pc Ls (.int z :: st))) (Fini D Z n0 s R (some (.int (nar t z))) A) := by
  obtain ⟨locs, X, N, RA⟩ := X
  obtain ⟨fs, hr, hrun, hended, hW, hsame⟩ := X.leave (v := some (.int (nar t z))) (fun h => by rw [K.2.2.2.2.2.1] at h; cases h) K.2.2.2.2.2.2.1
  exact ⟨_, _, Jvm.RoadKit.retN X K.1 K.2.2.2.2.2.1 ht (dc K hd) hr, hrun, hended, some (.int (nar t z)), locs, rfl, ⟨rfl, N, RA⟩, ⟨_, rfl⟩, hW, hsame.mono hc hs⟩
/-! fields -/
theorem getf (K : Cx p l e R s m meth c Z a0 W own nm bytes ml rt) (X : On p l e R s m args below meth c D Z n0 T A cells slots) {i idx t f a : Nat} {O n d : String} {v : Value} (w : W[i]? = some (.fieldLink own idx O n d)) (hd : decode bytes pc = .ok (.getfield idx, 3))
    (ht : 10 ≤ t) (hk : (D t).2[f]? = some (O, n, d)) (hg : h_fget A t a f = some v)
    {pc' : Nat} (hp : pc + 3 = pc') (k : ∀ T', On p l e R s m args below meth c D Z n0 T' A cells slots → Go p e below (T'.setTop (mkF m pc'  Ls (lf n0 v :: st))) G) : Go p e below (T.setTop (mkF m pc Ls (.ref (n0 + a) :: st))) G := by
  subst hp
  obtain ⟨locs, X, N, RA⟩ := X
  obtain ⟨T', X', e', stp⟩ := getF X K.1 K.2.1 K.2.2.1 (host := "") (Or.inl (wd K w)) Via.refl rfl (RA.fld ht hg hk) (g := mkF m pc Ls (.ref (n0 + a) :: st)) rfl rfl (dc K hd)
  exact go stp (k T' ⟨locs, X', N, by rw [e']; exact RA⟩)
theorem getfI (K : Cx p l e R s m meth c Z a0 W own nm bytes ml rt) (X : On p l e R s m args below meth c D Z n0 T A cells slots) {i idx t f a : Nat} {O n d : String} {v : Int32} (w : W[i]? = some (.fieldLink own idx O n d)) (hd : decode bytes pc = .ok (.getfield idx, 3))
    (ht : 10 ≤ t) (hk : (D t).2[f]? = some (O, n, d)) (hg : asI (h_fget A t a f) = some v)
    {pc' : Nat} (hp : pc + 3 = pc') (k : ∀ T', On p l e R s m args below meth c D Z n0 T' A cells slots → Go p e below (T'.setTop (mkF m pc' Ls (.int v :: st))) G) : Go p e below (T.setTop (mkF m pc Ls (.ref (n0 + a) :: st))) G := getf K X w hd ht hk (asI_s hg) hp k
theorem getfJ (K : Cx p l e R s m meth c Z a0 W own nm bytes ml rt) (X : On p l e R s m args below meth c D Z n0 T A cells slots) {i idx t f a : Nat} {O n d : String} {v : Int64} (w : W[i]? = some (.fieldLink own idx O n d)) (hd : decode bytes pc = .ok (.getfield idx, 3))
    (ht : 10 ≤ t) (hk : (D t).2[f]? = some (O, n, d)) (hg : asJ (h_fget A t a f) = some v)
    {pc' : Nat} (hp : pc + 3 = pc') (k : ∀ T', On p l e R s m args below meth c D Z n0 T' A cells slots → Go p e below (T'.setTop (mkF m pc' Ls (.long v :: st))) G) : Go p e below (T.setTop (mkF m pc Ls (.ref (n0 + a) :: st))) G := getf K X w hd ht hk (asJ_s hg) hp k
theorem getfR (K : Cx p l e R s m meth c Z a0 W own nm bytes ml rt) (X : On p l e R s m args below meth c D Z n0 T A cells slots) {i idx t f a : Nat} {O n d : String} {v : Nat} (w : W[i]? = some (.fieldLink own idx O n d)) (hd : decode bytes pc = .ok (.getfield idx, 3))
    (ht : 10 ≤ t) (hk : (D t).2[f]? = some (O, n, d)) (hg : asR (h_fget A t a f) = some v)
    {pc' : Nat} (hp : pc + 3 = pc') (k : ∀ T', On p l e R s m args below meth c D Z n0 T' A cells slots → Go p e below (T'.setTop (mkF m pc' Ls (.ref (n0 + v) :: st))) G) : Go p e below (T.setTop (mkF m pc Ls (.ref (n0 + a) :: st))) G := getf K X w hd ht hk (asR_s hg) hp k
theorem putf (K : Cx p l e R s m meth c Z a0 W own nm bytes ml rt) (sep : ∀ t, Sep Z (D t).2) (X : On p l e R s m args below meth c D Z n0 T A cells slots) {i idx t f a kk i2 : Nat} {O n d : String} {va v : Value} {ty : FieldType} (w : W[i]? = some (.fieldLink own idx O n d)) (hd : decode bytes pc = .ok (.putfield idx, 3))
    (ht : 10 ≤ t) (hk : (D t).2[f]? = some (O, n, d)) (wl : (Jvm.Cond.lays (D t).1 O n d).before a0 Z = true ∨ ((Jvm.Cond.laysFinal (D t).1 O n d).before a0 Z = true ∧ own = O ∧ nm = "<init>")) (wi : W[i2]? = some (.instantiable (D t).1 kk))
    (hty : parseFieldDescriptor d = some ty) (hn : narrow ty v = lf n0 va) (hf : fits ty (lf n0 va) = true) (hp : h_fset A t a f va = some A')
    {pc' : Nat} (hp : pc + 3 = pc') (k : ∀ T', On p l e R s m args below meth c D Z n0 T' A' cells slots → Go p e below (T'.setTop (mkF m pc'  Ls st)) G) : Go p e below (T.setTop (mkF m pc Ls (v :: .ref (n0 + a) :: st))) G := by
  subst hp
  obtain ⟨locs, X, N, RA⟩ := X
  obtain ⟨vs, hA, hlt, -⟩ := fset_s hp
  have F := RA.fld ht (show h_fget A t a f = some vs[f] by simp [h_fget, hA]) hk
  obtain ⟨T', h', X', e', W', stp⟩ := putFN X K.1 K.2.1 K.2.2.1 (wd K w) Via.refl rfl F (RA.exa ht hA) (wl.imp id fun q => ⟨q.1, q.2.1, K.2.2.2.2.2.2.2.1.trans q.2.2⟩) (wd K wi) hty hn hf (g := mkF m pc Ls (v :: .ref (n0 + a) :: st)) rfl rfl (dc K hd)
  exact go stp (k T' ⟨_, X', Fr.snoc X' N (Nat.le_add_right _ _), by rw [e']; exact RA.wrF (sep t) ht hp hk W'⟩)
/-! new -/
theorem newo (K : Cx p l e R s m meth c Z a0 W own nm bytes ml rt) (X : On p l e R s m args below meth c D Z n0 T A cells slots) {i1 i2 i3 idx n t : Nat} {ds : List Value} (w1 : W[i1]? = some (.classLink own idx (D t).1)) (w2 : W[i2]? = some (.instantiable (D t).1 n)) (w3 : W[i3]? = some (.initialized (D t).1))
    (hd : decode bytes pc = .ok (.new idx, 3)) (hc : cells + 1 ≤ R.cells) (hs : slots + n ≤ R.slots) (ht : 10 ≤ t) (hds : ∀ (k : Nat) (O f d : String) (v : Value), (D t).2[k]? = some (O, f, d) → ds[k]? = some v → ∃ ty, parseFieldDescriptor d = some ty ∧ Laid Z a0 (D t).1 O f d ∧ lf n0 v = defaultValue ty)
    {q : Nat × AH} (hq : h_onew A t ds = some q)
    {pc' : Nat} (hp : pc + 3 = pc') (k : ∀ T', On p l e R s m args below meth c D Z n0 T' q.2 (cells + 1) (slots + n) → Go p e below (T'.setTop (mkF m pc'  Ls (.ref (n0 + q.1) :: st))) G) : Go p e below (T.setTop (mkF m pc Ls st)) G := by
  subst hp
  cases hq
  obtain ⟨locs, X, N, RA⟩ := X
  obtain ⟨vm', cC, kC, h1, h2, h3, h4, X', stp⟩ := X.newCold K.1 K.2.2.1 (mvT K.2.1 (wd K w1)) (mvT K.2.1 (wd K w2)) (mvT K.2.1 (wd K w3)) (g := mkF m pc Ls st) rfl (dc K hd) hc hs
  have hZ := K.2.1
  rw [hZ.alike.findClass] at h1
  obtain ⟨kZ, z1, -⟩ := Vm.findClass_spec h1
  obtain ⟨k', z2, z3⟩ := hZ.alike.2.2 _ _ z1
  cases h2.symm.trans z2
  have ei : kC.instanceTypes = kZ.instanceTypes := by rw [z3]
  have hN : (T.heap.push { cls := cC, slots := kC.instanceTypes.map defaultValue, vm := .none })[T.heap.size]? = some { cls := cC, slots := kC.instanceTypes.map defaultValue, vm := .none } := by simp
  have hsz := RA.1
  refine go stp ?_
  rw [hsz]
  refine k _ ⟨locs, X', N, ?_⟩
  show Rep D Z n0 (T.heap.push _) _
  refine RA.push ⟨fun z => absurd ht (by omega), fun _ => ⟨⟨_, kZ, hN, h1, z1, rfl, fun _ => by simp [ei]⟩, fun j O f d v e1 e2 => ?_⟩⟩
  rw [List.getElem?_map, Option.map_eq_some_iff] at e2
  obtain ⟨v0, e2, rfl⟩ := e2
  obtain ⟨ty, p1, p2, p3⟩ := hds j O f d v0 e1 e2
  obtain ⟨c1, k1, cf, kf, i, f', a1, a2, a3, a4, a5, a6, -⟩ := p2.spec
  cases h1.symm.trans a1
  cases z1.symm.trans a2
  exact ⟨_, cf, kf, i, f', hN, a3, a4, by simp, rfl, a5, by simp [ei, a6, (State.fieldFound?_type a3 p1).2, p3]⟩
theorem newa (K : Cx p l e R s m meth c Z a0 W own nm bytes ml rt) (X : On p l e R s m args below meth c D Z n0 T A cells slots) {i1 t cap : Nat} {at' : ArrayType} {n : Int32} {dv : Value} (w1 : W[i1]? = some (.arrayClass (newarray.typeOf at'))) (hd : decode bytes pc = .ok (.newarray at', 2))
    (hb : cap * 8 ≤ 536870912) (hc : cells + 1 ≤ R.cells) (hs : slots + cap ≤ R.slots) (ht : t < 10) (hty : newarray.typeOf at' = aty t) (hdv : lf n0 dv = defaultValue (aty t)) {q : Nat × AH} (hq : h_anew A t cap n dv = some q)
    {pc' : Nat} (hp : pc + 2 = pc') (k : ∀ T', On p l e R s m args below meth c D Z n0 T' q.2 (cells + 1) (slots + cap) → Go p e below (T'.setTop (mkF m pc'  Ls (.ref (n0 + q.1) :: st))) G) : Go p e below (T.setTop (mkF m pc Ls (.int n :: st))) G := by
  subst hp
  unfold h_anew at hq
  split at hq
  · cases hq
  rename_i hn
  cases hq
  have hn1 : ¬ n < 0 := fun z => hn (Or.inl z)
  have hn2 : n.toNatClampNeg ≤ cap := Nat.le_of_not_lt fun z => hn (Or.inr z)
  have hn3 : n.toNatClampNeg < 2 ^ 31 := (back32 hn1).2
  obtain ⟨locs, X, N, RA⟩ := X
  have hZ := K.2.1
  have hcb : componentBytes (newarray.typeOf at') ≤ 8 := by cases at' <;> decide
  obtain ⟨cA, kA, comp, h1, h2, h3, X', stp⟩ := X.newarrayPrim K.1 (mvA hZ (wd K w1)) (g := mkF m pc Ls (.int n :: st)) rfl (dc K hd) rfl hn1 (Nat.le_trans (Nat.mul_le_mul hn2 hcb) hb) hc (by omega)
  rw [hZ.alike.findClass] at h1
  obtain ⟨kZ, z1, -⟩ := Vm.findClass_spec h1
  obtain ⟨k', z2, z3⟩ := hZ.alike.2.2 _ _ z1
  cases h2.symm.trans z2
  refine go stp ?_
  rw [RA.1]
  refine k _ ⟨locs, X'.more (Nat.le_refl _) (by omega), N, ?_⟩
  show Rep D Z n0 (T.heap.push _) _
  refine RA.push ⟨fun _ => ⟨_, ⟨by simp; rfl, ⟨by simp, kZ, z1, comp, by rw [← hty, ← h3, z3]⟩, by simp⟩, ?_, by simpa using hn3, fun v hv => ?_⟩, fun z => absurd ht (by omega)⟩
  · simp [hty, hdv]
  · rw [List.map_replicate] at hv
    rw [List.eq_of_mem_replicate hv, hdv]; cases aty t <;> rfl
/-! arrays -/
theorem h_alen' (K : Cx p l e R s m meth c Z a0 W own nm bytes ml rt) (X : On p l e R s m args below meth c D Z n0 T A cells slots) {t a : Nat} {n : Int32} (ht : t < 10) (hg : h_alen A t a = some n) (hd : decode bytes pc = .ok (.arraylength, 1))
    {pc' : Nat} (hp : pc + 1 = pc') (k : Go p e below (T.setTop (mkF m pc'  Ls (.int n :: st))) G) : Go p e below (T.setTop (mkF m pc Ls (.ref (n0 + a) :: st))) G := by
  subst hp
  obtain ⟨locs, X, N, RA⟩ := X
  unfold h_alen at hg
  split at hg
  · rename_i t' vs e
    split at hg
    · rename_i q; subst q
      cases hg
      obtain ⟨cl, h1, h2, -⟩ := RA.arr ht e
      have : cl.slots.size = vs.length := by rw [← Array.length_toList, h2]; simp
      rw [← this] at k
      exact go (X.arraylength K.1 h1.1 (State.isArrayOf_alike K.2.1.alike h1.2.1) (g := mkF m pc Ls (.ref (n0 + a) :: st)) rfl rfl (dc K hd)) k
    · cases hg
  · cases hg
theorem ald0 (K : Cx p l e R s m meth c Z a0 W own nm bytes ml rt) (X : On p l e R s m args below meth c D Z n0 T A cells slots) {a : Nat} {j : Int32} {v : Value} (hg : h_aget A 0 a j = some v) (hd : decode bytes pc = .ok (.iaload, 1))
    {pc' : Nat} (hp : pc + 1 = pc') (k : Go p e below (T.setTop (mkF m pc'  Ls (lf n0 v :: st))) G) : Go p e below (T.setTop (mkF m pc Ls (.int j :: .ref (n0 + a) :: st))) G := by
  subst hp
  obtain ⟨locs, X, N, RA⟩ := X
  obtain ⟨cl, h1, h2, h3⟩ := RA.at (by decide) hg
  exact go (X.iaload K.1 h1.1 (State.isArrayOf_alike K.2.1.alike h1.2.1) h1.2.2 h2 h3 (g := mkF m pc Ls (.int j :: .ref (n0 + a) :: st)) rfl rfl (dc K hd)) k
theorem ald1 (K : Cx p l e R s m meth c Z a0 W own nm bytes ml rt) (X : On p l e R s m args below meth c D Z n0 T A cells slots) {a : Nat} {j : Int32} {v : Value} (hg : h_aget A 1 a j = some v) (hd : decode bytes pc = .ok (.caload, 1))
    {pc' : Nat} (hp : pc + 1 = pc') (k : Go p e below (T.setTop (mkF m pc'  Ls (lf n0 v :: st))) G) : Go p e below (T.setTop (mkF m pc Ls (.int j :: .ref (n0 + a) :: st))) G := by
  subst hp
  obtain ⟨locs, X, N, RA⟩ := X
  obtain ⟨cl, h1, h2, h3⟩ := RA.at (by decide) hg
  exact go (X.caload K.1 h1.1 (State.isArrayOf_alike K.2.1.alike h1.2.1) h1.2.2 h2 h3 (g := mkF m pc Ls (.int j :: .ref (n0 + a) :: st)) rfl rfl (dc K hd)) k
theorem ald2 (K : Cx p l e R s m meth c Z a0 W own nm bytes ml rt) (X : On p l e R s m args below meth c D Z n0 T A cells slots) {a : Nat} {j : Int32} {v : Value} (hg : h_aget A 2 a j = some v) (hd : decode bytes pc = .ok (.baload, 1))
    {pc' : Nat} (hp : pc + 1 = pc') (k : Go p e below (T.setTop (mkF m pc'  Ls (lf n0 v :: st))) G) : Go p e below (T.setTop (mkF m pc Ls (.int j :: .ref (n0 + a) :: st))) G := by
  subst hp
  obtain ⟨locs, X, N, RA⟩ := X
  obtain ⟨cl, h1, h2, h3⟩ := RA.at (by decide) hg
  exact go (X.baloadBytes K.1 h1.1 (State.isArrayOf_alike K.2.1.alike h1.2.1) h1.2.2 h2 h3 (g := mkF m pc Ls (.int j :: .ref (n0 + a) :: st)) rfl rfl (dc K hd)) k
theorem ald3 (K : Cx p l e R s m meth c Z a0 W own nm bytes ml rt) (X : On p l e R s m args below meth c D Z n0 T A cells slots) {a : Nat} {j : Int32} {v : Value} (hg : h_aget A 3 a j = some v) (hd : decode bytes pc = .ok (.laload, 1))
    {pc' : Nat} (hp : pc + 1 = pc') (k : Go p e below (T.setTop (mkF m pc'  Ls (lf n0 v :: st))) G) : Go p e below (T.setTop (mkF m pc Ls (.int j :: .ref (n0 + a) :: st))) G := by
  subst hp
  obtain ⟨locs, X, N, RA⟩ := X
  obtain ⟨cl, h1, h2, h3⟩ := RA.at (by decide) hg
  exact go (X.laload K.1 h1.1 (State.isArrayOf_alike K.2.1.alike h1.2.1) h1.2.2 h2 h3 (g := mkF m pc Ls (.int j :: .ref (n0 + a) :: st)) rfl rfl (dc K hd)) k
theorem ald4 (K : Cx p l e R s m meth c Z a0 W own nm bytes ml rt) (X : On p l e R s m args below meth c D Z n0 T A cells slots) {a : Nat} {j : Int32} {v : Value} (hg : h_aget A 4 a j = some v) (hd : decode bytes pc = .ok (.baload, 1))
    {pc' : Nat} (hp : pc + 1 = pc') (k : Go p e below (T.setTop (mkF m pc'  Ls (lf n0 v :: st))) G) : Go p e below (T.setTop (mkF m pc Ls (.int j :: .ref (n0 + a) :: st))) G := by
  subst hp
  obtain ⟨locs, X, N, RA⟩ := X
  obtain ⟨cl, h1, h2, h3⟩ := RA.at (by decide) hg
  exact go (X.baloadBooleans K.1 h1.1 (State.isArrayOf_alike K.2.1.alike h1.2.1) h1.2.2 h2 h3 (g := mkF m pc Ls (.int j :: .ref (n0 + a) :: st)) rfl rfl (dc K hd)) k
theorem ld0 (K : Cx p l e R s m meth c Z a0 W own nm bytes ml rt) (X : On p l e R s m args below meth c D Z n0 T A cells slots) {a : Nat} {j : Int32} {v : Int32} (hg : asI (h_aget A 0 a j) = some v) (hd : decode bytes pc = .ok (.iaload, 1))
    {pc' : Nat} (hp : pc + 1 = pc') (k : Go p e below (T.setTop (mkF m pc' Ls (.int v :: st))) G) : Go p e below (T.setTop (mkF m pc Ls (.int j :: .ref (n0 + a) :: st))) G := ald0 K X (asI_s hg) hd hp k
theorem ld1 (K : Cx p l e R s m meth c Z a0 W own nm bytes ml rt) (X : On p l e R s m args below meth c D Z n0 T A cells slots) {a : Nat} {j : Int32} {v : Int32} (hg : asI (h_aget A 1 a j) = some v) (hd : decode bytes pc = .ok (.caload, 1))
    {pc' : Nat} (hp : pc + 1 = pc') (k : Go p e below (T.setTop (mkF m pc' Ls (.int v :: st))) G) : Go p e below (T.setTop (mkF m pc Ls (.int j :: .ref (n0 + a) :: st))) G := ald1 K X (asI_s hg) hd hp k
theorem ld2 (K : Cx p l e R s m meth c Z a0 W own nm bytes ml rt) (X : On p l e R s m args below meth c D Z n0 T A cells slots) {a : Nat} {j : Int32} {v : Int32} (hg : asI (h_aget A 2 a j) = some v) (hd : decode bytes pc = .ok (.baload, 1))
    {pc' : Nat} (hp : pc + 1 = pc') (k : Go p e below (T.setTop (mkF m pc' Ls (.int v :: st))) G) : Go p e below (T.setTop (mkF m pc Ls (.int j :: .ref (n0 + a) :: st))) G := ald2 K X (asI_s hg) hd hp k
theorem ld3 (K : Cx p l e R s m meth c Z a0 W own nm bytes ml rt) (X : On p l e R s m args below meth c D Z n0 T A cells slots) {a : Nat} {j : Int32} {v : Int64} (hg : asJ (h_aget A 3 a j) = some v) (hd : decode bytes pc = .ok (.laload, 1))
    {pc' : Nat} (hp : pc + 1 = pc') (k : Go p e below (T.setTop (mkF m pc' Ls (.long v :: st))) G) : Go p e below (T.setTop (mkF m pc Ls (.int j :: .ref (n0 + a) :: st))) G := ald3 K X (asJ_s hg) hd hp k
theorem ld4 (K : Cx p l e R s m meth c Z a0 W own nm bytes ml rt) (X : On p l e R s m args below meth c D Z n0 T A cells slots) {a : Nat} {j : Int32} {v : Int32} (hg : asI (h_aget A 4 a j) = some v) (hd : decode bytes pc = .ok (.baload, 1))
    {pc' : Nat} (hp : pc + 1 = pc') (k : Go p e below (T.setTop (mkF m pc' Ls (.int v :: st))) G) : Go p e below (T.setTop (mkF m pc Ls (.int j :: .ref (n0 + a) :: st))) G := ald4 K X (asI_s hg) hd hp k
theorem ast0 (K : Cx p l e R s m meth c Z a0 W own nm bytes ml rt) (X : On p l e R s m args below meth c D Z n0 T A cells slots) {a : Nat} {j x : Int32} (hp : h_aset A 0 a j (.int x) = some A') (hd : decode bytes pc = .ok (.iastore, 1))
    {pc' : Nat} (hp : pc + 1 = pc') (k : ∀ T', On p l e R s m args below meth c D Z n0 T' A' cells slots → Go p e below (T'.setTop (mkF m pc'  Ls st)) G) : Go p e below (T.setTop (mkF m pc Ls (.int x :: .int j :: .ref (n0 + a) :: st))) G := by
  subst hp
  obtain ⟨locs, X, N, RA⟩ := X
  obtain ⟨cl, h1, h2⟩ := RA.into (by decide) hp
  obtain ⟨T', h', X', e', W', stp⟩ := stI X K.1 K.2.1 rfl h1 h2 (g := mkF m pc Ls (.int x :: .int j :: .ref (n0 + a) :: st)) rfl rfl (dc K hd)
  exact go stp (k T' ⟨_, X', Fr.snoc X' N (Nat.le_add_right _ _), by rw [e']; exact RA.wrA (by decide) hp rfl W'⟩)
theorem ast1 (K : Cx p l e R s m meth c Z a0 W own nm bytes ml rt) (X : On p l e R s m args below meth c D Z n0 T A cells slots) {a : Nat} {j x : Int32} (hp : h_aset A 1 a j (.int (nar .char x)) = some A') (hd : decode bytes pc = .ok (.castore, 1))
    {pc' : Nat} (hp : pc + 1 = pc') (k : ∀ T', On p l e R s m args below meth c D Z n0 T' A' cells slots → Go p e below (T'.setTop (mkF m pc'  Ls st)) G) : Go p e below (T.setTop (mkF m pc Ls (.int x :: .int j :: .ref (n0 + a) :: st))) G := by
  subst hp
  obtain ⟨locs, X, N, RA⟩ := X
  obtain ⟨cl, h1, h2⟩ := RA.into (by decide) hp
  obtain ⟨T', h', X', e', W', stp⟩ := stC X K.1 K.2.1 rfl h1 h2 (g := mkF m pc Ls (.int x :: .int j :: .ref (n0 + a) :: st)) rfl rfl (dc K hd)
  exact go stp (k T' ⟨_, X', Fr.snoc X' N (Nat.le_add_right _ _), by rw [e']; exact RA.wrA (by decide) hp (fits_nar_char _) W'⟩)
theorem ast2 (K : Cx p l e R s m meth c Z a0 W own nm bytes ml rt) (X : On p l e R s m args below meth c D Z n0 T A cells slots) {a : Nat} {j x : Int32} (hp : h_aset A 2 a j (.int (nar .byte x)) = some A') (hd : decode bytes pc = .ok (.bastore, 1))
    {pc' : Nat} (hp : pc + 1 = pc') (k : ∀ T', On p l e R s m args below meth c D Z n0 T' A' cells slots → Go p e below (T'.setTop (mkF m pc'  Ls st)) G) : Go p e below (T.setTop (mkF m pc Ls (.int x :: .int j :: .ref (n0 + a) :: st))) G := by
  subst hp
  obtain ⟨locs, X, N, RA⟩ := X
  obtain ⟨cl, h1, h2⟩ := RA.into (by decide) hp
  obtain ⟨T', h', X', e', W', stp⟩ := stB X K.1 K.2.1 rfl h1 h2 (g := mkF m pc Ls (.int x :: .int j :: .ref (n0 + a) :: st)) rfl rfl (dc K hd)
  exact go stp (k T' ⟨_, X', Fr.snoc X' N (Nat.le_add_right _ _), by rw [e']; exact RA.wrA (by decide) hp (fits_nar_byte _) W'⟩)
theorem ast3 (K : Cx p l e R s m meth c Z a0 W own nm bytes ml rt) (X : On p l e R s m args below meth c D Z n0 T A cells slots) {a : Nat} {j : Int32} {x : Int64} (hp : h_aset A 3 a j (.long x) = some A') (hd : decode bytes pc = .ok (.lastore, 1))
    {pc' : Nat} (hp : pc + 1 = pc') (k : ∀ T', On p l e R s m args below meth c D Z n0 T' A' cells slots → Go p e below (T'.setTop (mkF m pc'  Ls st)) G) : Go p e below (T.setTop (mkF m pc Ls (.long x :: .int j :: .ref (n0 + a) :: st))) G := by
  subst hp
  obtain ⟨locs, X, N, RA⟩ := X
  obtain ⟨cl, h1, h2⟩ := RA.into (by decide) hp
  obtain ⟨T', h', X', e', W', stp⟩ := stJ X K.1 K.2.1 rfl h1 h2 (g := mkF m pc Ls (.long x :: .int j :: .ref (n0 + a) :: st)) rfl rfl (dc K hd)
  exact go stp (k T' ⟨_, X', Fr.snoc X' N (Nat.le_add_right _ _), by rw [e']; exact RA.wrA (by decide) hp rfl W'⟩)
theorem ast4 (K : Cx p l e R s m meth c Z a0 W own nm bytes ml rt) (X : On p l e R s m args below meth c D Z n0 T A cells slots) {a : Nat} {j x : Int32} (hp : h_aset A 4 a j (.int (nar .boolean x)) = some A') (hd : decode bytes pc = .ok (.bastore, 1))
    {pc' : Nat} (hp : pc + 1 = pc') (k : ∀ T', On p l e R s m args below meth c D Z n0 T' A' cells slots → Go p e below (T'.setTop (mkF m pc'  Ls st)) G) : Go p e below (T.setTop (mkF m pc Ls (.int x :: .int j :: .ref (n0 + a) :: st))) G := by
  subst hp
  obtain ⟨locs, X, N, RA⟩ := X
  obtain ⟨cl, h1, h2⟩ := RA.into (by decide) hp
  obtain ⟨T', h', X', e', W', stp⟩ := stZ X K.1 K.2.1 rfl h1 h2 (g := mkF m pc Ls (.int x :: .int j :: .ref (n0 + a) :: st)) rfl rfl (dc K hd)
  exact go stp (k T' ⟨_, X', Fr.snoc X' N (Nat.le_add_right _ _), by rw [e']; exact RA.wrA (by decide) hp (fits_nar_bool _) W'⟩)
/-! calls -/
theorem obj (K : Cx p l e R s m meth c Z a0 W own nm bytes ml rt) (X : On p l e R s m args below meth c D Z n0 T A cells slots) {i1 i2 i3 idx w : Nat} {a : Addr} (w1 : W[i1]? = some (.methodLink own idx Lib.objectInit)) (w2 : W[i2]? = some (.instanceMethod Lib.objectInit)) (w3 : W[i3]? = some (.code Lib.objectInit ⟨#[0xb1]⟩ 1 none))
    (hd : decode bytes pc = .ok (.invokespecial idx, 3)) (hz : Ls.size = ml) (hf : 1 ≤ R.frames) (hw : (st.map fun v => v.category).sum ≤ w) (hl : w + 12 ≤ R.locals)
    {pc' : Nat} (hp : pc + 3 = pc') (k : ∀ T', On p l e R s m args below meth c D Z n0 T' A cells slots → Go p e below (T'.setTop (mkF m pc'  Ls st)) G) : Go p e below (T.setTop (mkF m pc Ls (.ref a :: st))) G := by
  subst hp
  obtain ⟨locs, X, N, RA⟩ := X
  obtain ⟨T', X', e', stp⟩ := initO X K.1 K.2.1 K.2.2.1 (wd K w1) (wd K w2) (wd K w3) rfl (g := mkF m pc Ls (.ref a :: st)) rfl (hz.trans K.2.2.2.2.1.symm) rfl (dc K hd) hf (W := w) (by simpa [JFrame.monitorRoom] using hw) hl
  exact go stp (k T' ⟨locs, X', N, by rw [e']; exact RA⟩)
theorem calls (K : Cx p l e R s m meth c Z a0 W own nm bytes ml rt) (X : On p l e R s m args below meth c D Z n0 T A cells slots) {i1 i2 i3 i4 idx w : Nat} {y : MethodName} {by' : ByteArray} {ml' : Nat} {rt' : Option FieldType} {rm : Room} {as : List Value} {r : Option Value} {S : List Value} {ps : List FieldType}
    (w1 : W[i1]? = some (.methodLink own idx y)) (w2 : W[i2]? = some (.static y)) (w3 : W[i3]? = some (.initialized y.cls)) (w4 : W[i4]? = some (.code y by' ml' rt')) (hy : y.cls ≠ "java/lang/invoke/MethodHandle" ∧ y.cls ≠ "java/lang/invoke/VarHandle")
    (M : Met l D Z n0 y by' ml' rt' rm as A r A') (hpd : parseMethodDescriptor y.desc = some ⟨ps, rt'⟩) (hlen : as.length = ps.length) (hd : decode bytes pc = .ok (.invokestatic idx, 3)) (hz : Ls.size = ml) (hS : S = as.reverse ++ st)
    (hf : rm.frames + 1 ≤ R.frames) (hw : (st.map fun v => v.category).sum ≤ w) (hl : w + (ml' + 11) + rm.locals ≤ R.locals) (hc : cells + rm.cells ≤ R.cells) (hs : slots + rm.slots ≤ R.slots)
    {pc' kc ks : Nat} {S' : List Value} (ec : cells + rm.cells = kc) (es : slots + rm.slots = ks) (hS' : r.toList ++ st = S') (hp : pc + 3 = pc') (k : ∀ T', On p l e R s m args below meth c D Z n0 T' A' kc ks → Go p e below (T'.setTop (mkF m pc' Ls S')) G) : Go p e below (T.setTop (mkF m pc Ls S)) G := by
  subst hp ec es hS'
  obtain ⟨locs, X, N, RA⟩ := X
  obtain ⟨v, vm, ⟨T', L', k', n'⟩, -, X', ⟨Lc, hQ, q1, q2, q3⟩, stp⟩ := Jvm.LawKit.callS X K.1 K.2.2.1 (mvT K.2.1 (wd K w1)) (mvT K.2.1 (wd K w2)) (mvT K.2.1 (wd K w3)) (mvT K.2.1 (wd K w4)) hy
    (backOf (W := w) (M [] T.heap RA) K.2.1 (wd K w4) (wd K w3) hf hl) (g := mkF m pc Ls S) rfl (hz.trans K.2.2.2.2.1.symm) (argsL := as) (rest := st) (lenOf hpd hlen) hS (by simpa [JFrame.monitorRoom] using hw) (dc K hd) (fun _ _ => ⟨rfl, rfl, hc, hs⟩)
  dsimp only [Pt.U, Pt.locs, Pt.cells, Pt.slots] at X' q1 q2 q3 hQ stp
  subst q1 q2 q3
  obtain ⟨rfl, N', RA'⟩ := hQ
  exact go stp (k T' ⟨_, X', Fr.app N N', RA'⟩)
theorem calli (K : Cx p l e R s m meth c Z a0 W own nm bytes ml rt) (X : On p l e R s m args below meth c D Z n0 T A cells slots) {i1 i2 i3 i4 idx w : Nat} {y : MethodName} {by' : ByteArray} {ml' : Nat} {rm : Room} {a : Addr} {as : List Value} {S : List Value} {ps : List FieldType}
    (w1 : W[i1]? = some (.methodLink own idx y)) (w2 : W[i2]? = some (.instanceMethod y)) (w3 : W[i3]? = some (.initialized y.cls)) (w4 : W[i4]? = some (.code y by' ml' none)) (hy1 : y.name = "<init>") (hy : y.cls ≠ "java/lang/invoke/MethodHandle" ∧ y.cls ≠ "java/lang/invoke/VarHandle")
    (M : Met l D Z n0 y by' ml' none rm (.ref a :: as) A none A') (hpd : parseMethodDescriptor y.desc = some ⟨ps, none⟩) (hlen : as.length = ps.length) (hd : decode bytes pc = .ok (.invokespecial idx, 3)) (hz : Ls.size = ml) (hS : S = as.reverse ++ .ref a :: st)
    (hf : rm.frames + 1 ≤ R.frames) (hw : (st.map fun v => v.category).sum ≤ w) (hl : w + (ml' + 11) + rm.locals ≤ R.locals) (hc : cells + rm.cells ≤ R.cells) (hs : slots + rm.slots ≤ R.slots)
    {pc' kc ks : Nat} (ec : cells + rm.cells = kc) (es : slots + rm.slots = ks) (hp : pc + 3 = pc') (k : ∀ T', On p l e R s m args below meth c D Z n0 T' A' kc ks → Go p e below (T'.setTop (mkF m pc'  Ls st)) G) : Go p e below (T.setTop (mkF m pc Ls S)) G := by
  subst hp ec es
  obtain ⟨locs, X, N, RA⟩ := X
  obtain ⟨v, vm, ⟨T', L', k', n'⟩, -, X', ⟨Lc, hQ, q1, q2, q3⟩, stp⟩ := X.specialBack K.1 hy1 K.2.2.1 (mvT K.2.1 (wd K w1)) (mvT K.2.1 (wd K w2)) (mvT K.2.1 (wd K w4)) hy
    (backOf (W := w) (M [] T.heap RA) K.2.1 (wd K w4) (wd K w3) hf hl) (g := mkF m pc Ls S) rfl (hz.trans K.2.2.2.2.1.symm) (Steps.refl _) (a := a) (argsL := as) (rest := st) (lenOf hpd hlen) hS (by simpa [JFrame.monitorRoom] using hw) (dc K hd) (fun _ _ => ⟨rfl, rfl, hc, hs⟩)
  dsimp only [Pt.U, Pt.locs, Pt.cells, Pt.slots] at X' q1 q2 q3 hQ stp
  subst q1 q2 q3
  obtain ⟨rfl, N', RA'⟩ := hQ
  exact go (fun _ q => stp.trans q) (k T' ⟨_, X', Fr.app N N', RA'⟩)
theorem callv (K : Cx p l e R s m meth c Z a0 W own nm bytes ml rt) (X : On p l e R s m args below meth c D Z n0 T A cells slots) {i1 i2 i3 i4 i5 i6 idx w t a : Nat} {u : Unit} {y : MethodName} {by' : ByteArray} {ml' : Nat} {rt' : Option FieldType} {rm : Room} {as : List Value} {r : Option Value} {S : List Value} {ps : List FieldType}
    (w1 : W[i1]? = some (.methodLink own idx y)) (w2 : W[i2]? = some (.declares y)) (w5 : W[i5]? = some (.selects (D t).1 y y)) (w6 : W[i6]? = some (.instanceMethod y)) (w3 : W[i3]? = some (.initialized y.cls)) (w4 : W[i4]? = some (.code y by' ml' rt')) (hy : y.cls ≠ "java/lang/invoke/MethodHandle" ∧ y.cls ≠ "java/lang/invoke/VarHandle")
    (ht : 10 ≤ t) (hA : h_isA A t a = some u) (M : Met l D Z n0 y by' ml' rt' rm (.ref (n0 + a) :: as) A r A') (hpd : parseMethodDescriptor y.desc = some ⟨ps, rt'⟩) (hlen : as.length = ps.length) (hd : decode bytes pc = .ok (.invokevirtual idx, 3)) (hz : Ls.size = ml) (hS : S = as.reverse ++ .ref (n0 + a) :: st)
    (hf : rm.frames + 1 ≤ R.frames) (hw : (st.map fun v => v.category).sum ≤ w) (hl : w + (ml' + 11) + rm.locals ≤ R.locals) (hc : cells + rm.cells ≤ R.cells) (hs : slots + rm.slots ≤ R.slots)
    {pc' kc ks : Nat} {S' : List Value} (ec : cells + rm.cells = kc) (es : slots + rm.slots = ks) (hS' : r.toList ++ st = S') (hp : pc + 3 = pc') (k : ∀ T', On p l e R s m args below meth c D Z n0 T' A' kc ks → Go p e below (T'.setTop (mkF m pc' Ls S')) G) : Go p e below (T.setTop (mkF m pc Ls S)) G := by
  subst hp ec es hS'
  obtain ⟨locs, X, N, RA⟩ := X
  obtain ⟨vs, hA⟩ := isA_s hA
  obtain ⟨cq, kq, q1, q2, q3⟩ := isOf K.2.1 rfl (RA.exa ht hA)
  obtain ⟨v, vm, ⟨T', L', k', n'⟩, -, X', ⟨Lc, hQ, q1, q2, q3⟩, stp⟩ := X.virtualBack K.1 (y := y) (z := y) K.2.2.1 (mvT K.2.1 (wd K w1)) (mvT K.2.1 (wd K w2)) (notFace_of_selects (args := #[]) (mvT K.2.1 (wd K w5))) (mvT K.2.1 (wd K w5)) (mvT K.2.1 (wd K w6)) hy
    (backOf (W := w) (M [] T.heap RA) K.2.1 (wd K w4) (wd K w3) hf hl) q1 q3 (g := mkF m pc Ls S) rfl (hz.trans K.2.2.2.2.1.symm) (Steps.refl _) (argsL := as) (rest := st) (lenOf hpd hlen) hS (by simpa [JFrame.monitorRoom] using hw) (dc K hd) (fun _ _ => ⟨rfl, rfl, hc, hs⟩)
  dsimp only [Pt.U, Pt.locs, Pt.cells, Pt.slots] at X' q1 q2 q3 hQ stp
  subst q1 q2 q3
  obtain ⟨rfl, N', RA'⟩ := hQ
  exact go (fun _ q => stp.trans q) (k T' ⟨_, X', Fr.app N N', RA'⟩)
theorem callp (K : Cx p l e R s m meth c Z a0 W own nm bytes ml rt) (X : On p l e R s m args below meth c D Z n0 T A cells slots) {i1 i2 i3 i4 i5 i6 idx w t a kk : Nat} {u : Unit} {y : MethodName} {by' : ByteArray} {ml' : Nat} {rt' : Option FieldType} {rm : Room} {as : List Value} {r : Option Value} {S : List Value} {ps : List FieldType}
    (w1 : W[i1]? = some (.methodLink own idx y)) (w2 : W[i2]? = some (.privateMethod y)) (w5 : W[i5]? = some (.instantiable y.cls kk)) (w6 : W[i6]? = some (.instanceMethod y)) (w3 : W[i3]? = some (.initialized y.cls)) (w4 : W[i4]? = some (.code y by' ml' rt')) (hy : y.cls ≠ "java/lang/invoke/MethodHandle" ∧ y.cls ≠ "java/lang/invoke/VarHandle")
    (ht : 10 ≤ t) (hA : h_isA A t a = some u) (M : Met l D Z n0 y by' ml' rt' rm (.ref (n0 + a) :: as) A r A') (hpd : parseMethodDescriptor y.desc = some ⟨ps, rt'⟩) (hlen : as.length = ps.length) (hd : decode bytes pc = .ok (.invokevirtual idx, 3)) (hz : Ls.size = ml) (hS : S = as.reverse ++ .ref (n0 + a) :: st)
    (hf : rm.frames + 1 ≤ R.frames) (hw : (st.map fun v => v.category).sum ≤ w) (hl : w + (ml' + 11) + rm.locals ≤ R.locals) (hc : cells + rm.cells ≤ R.cells) (hs : slots + rm.slots ≤ R.slots)
    {pc' kc ks : Nat} {S' : List Value} (ec : cells + rm.cells = kc) (es : slots + rm.slots = ks) (hS' : r.toList ++ st = S') (hp : pc + 3 = pc') (k : ∀ T', On p l e R s m args below meth c D Z n0 T' A' kc ks → Go p e below (T'.setTop (mkF m pc' Ls S')) G) : Go p e below (T.setTop (mkF m pc Ls S)) G := by
  subst hp ec es hS'
  obtain ⟨locs, X, N, RA⟩ := X
  obtain ⟨vs, hA⟩ := isA_s hA
  obtain ⟨cq, q1, q2⟩ := (RA.exa ht hA).cell
  have wi : (Jvm.Cond.instantiable y.cls kk).before #[] s = true := mvT K.2.1 (wd K w5)
  obtain ⟨c0, k0, i1, i2, i3, i4, -⟩ := Cond.instantiable_spec wi
  have hni : k0.isInterface = false := (Bool.or_eq_false_iff.mp i4).1
  have hpr : s.PrivateAt y := Cond.privateMethod_at (mvP K.2.1 (wd K w2) (args := #[]))
  have hin : (Jvm.Cond.instanceMethod y).before args s = true := mvT K.2.1 (wd K w6)
  obtain ⟨v, vm, ⟨T', L', k', n'⟩, -, X', ⟨Lc, hQ, q1, q2, q3⟩, stp⟩ := X.privateBack K.1 (y := y) K.2.2.1 (mvT K.2.1 (wd K w1)) hin (selects_self_of_private i1 i2 hni hpr hin hy) hpr (mvT K.2.1 (wd K w4)) hy
    (backOf (W := w) (M [] T.heap RA) K.2.1 (wd K w4) (wd K w3) hf hl) (g := mkF m pc Ls S) rfl (hz.trans K.2.2.2.2.1.symm) (Steps.refl _) (a := n0 + a) q1 q2 (argsL := as) (rest := st) (lenOf hpd hlen) hS (by simpa [JFrame.monitorRoom] using hw) (dc K hd) (fun _ _ => ⟨rfl, rfl, hc, hs⟩)
  dsimp only [Pt.U, Pt.locs, Pt.cells, Pt.slots] at X' q1 q2 q3 hQ stp
  subst q1 q2 q3
  obtain ⟨rfl, N', RA'⟩ := hQ
  exact go (fun _ q => stp.trans q) (k T' ⟨_, X', Fr.app N N', RA'⟩)
theorem acp (K : Cx p l e R s m meth c Z a0 W own nm bytes ml rt) (X : On p l e R s m args below meth c D Z n0 T A cells slots) {i1 i2 i3 i4 idx w t a b : Nat} {sp dp n : Int32} (w1 : W[i1]? = some (.methodLink own idx Jvm.Stand.acN)) (w2 : W[i2]? = some (.native Jvm.Stand.acN)) (w3 : W[i3]? = some (.static Jvm.Stand.acN)) (w4 : W[i4]? = some (.initialized "java/lang/System"))
    (hd : decode bytes pc = .ok (.invokestatic idx, 3)) (hz : Ls.size = ml) (ht : t < 10) (hq : h_acp A t a b sp dp n = some A') (hf : 1 ≤ R.frames) (hw : (st.map fun v => v.category).sum ≤ w) (hl : w + (nativeFrameWords "java/lang/System" "arraycopy" 5 + 11) ≤ R.locals)
    {pc' : Nat} (hp : pc + 3 = pc') (k : ∀ T', On p l e R s m args below meth c D Z n0 T' A' cells slots → Go p e below (T'.setTop (mkF m pc' Ls st)) G) : Go p e below (T.setTop (mkF m pc Ls (.int n :: .int dp :: .ref (n0 + b) :: .int sp :: .ref (n0 + a) :: st))) G := by
  subst hp
  obtain ⟨locs, X, N, RA⟩ := X
  have hZ := K.2.1
  unfold h_acp at hq
  split at hq
  · rename_i t1 vs t2 vd ea eb
    split at hq
    · rename_i q
      obtain ⟨rfl, q2, h1, h2, h3, h4, h5⟩ := q
      cases q2
      cases hq
      obtain ⟨cs, As, ls, -, fs⟩ := RA.arr ht ea
      obtain ⟨cd, Ad, ld, lt, fd⟩ := RA.arr ht eb
      obtain ⟨os, ks, hks, sc, hsk⟩ := State.isArrayOf_alike hZ.alike As.2.1
      obtain ⟨od, kd, hkd, dc', hdk⟩ := State.isArrayOf_alike hZ.alike Ad.2.1
      have ss : cs.slots.size = vs.length := by rw [← Array.length_toList, ls]; simp
      have sd : cd.slots.size = vd.length := by rw [← Array.length_toList, ld]; simp
      have nat : ∀ {x : Int32}, ¬ x < 0 → x.toInt = x.toNatClampNeg := fun {x} q => by
        have := nneg.mp q; rw [nclamp]; omega
      have rk : refKind (aty t1) = false := by unfold aty; split <;> rfl
      have gv : ∀ i, i < n.toNatClampNeg → ∃ u, u ∈ vs.map (lf n0) ∧ cs.slots.getD (sp.toNatClampNeg + i) .null = u ∧ (vs.map (lf n0))[sp.toNatClampNeg + i]? = some u := fun i hi => by
        have lt' : sp.toNatClampNeg + i < (vs.map (lf n0)).length := by rw [List.length_map]; omega
        refine ⟨(vs.map (lf n0))[sp.toNatClampNeg + i], List.getElem_mem lt', ?_, List.getElem?_eq_getElem lt'⟩
        rw [Array.getD_eq_getD_getElem?, ← Array.getElem?_toList, ls, List.getElem?_eq_getElem lt']; rfl
      have hmr : 2 * (mkF m pc Ls (.int n :: .int dp :: .ref (n0 + b) :: .int sp :: .ref (n0 + a) :: st)).monitorRoom + (st.map fun v => v.category).sum + (nativeFrameWords "java/lang/System" "arraycopy" 5 + 11) ≤ R.locals := by
        have e0 : (mkF m pc Ls (.int n :: .int dp :: .ref (n0 + b) :: .int sp :: .ref (n0 + a) :: st)).monitorRoom = 0 := by simp [JFrame.monitorRoom]
        rw [e0]; omega
      obtain ⟨vm₁, hW₁, X', stp⟩ := X.arraycopyK K.1 K.2.2.1 (mvT hZ (wd K w1)) (mvT hZ (wd K w2)) (mvT hZ (wd K w3)) (mvT hZ (wd K w4)) As.1 Ad.1 os od As.2.2 Ad.2.2 hks hkd hsk hdk (by simp [rk]) h1 h2 h3 (by rw [nat h1, nat h3, ss]; omega) (by rw [nat h2, nat h3, sd]; omega)
        (fun vm₁ hw' i hi => by
          obtain ⟨u, mu, eu, -⟩ := gv i hi
          rw [eu]
          refine ⟨fs u mu, ?_⟩
          have q := fs u mu
          cases u <;> try trivial
          exact (prim_no_ref rk q).elim) (g := mkF m pc Ls (.int n :: .int dp :: .ref (n0 + b) :: .int sp :: .ref (n0 + a) :: st)) rfl (hz.trans K.2.2.2.2.1.symm) rfl (dc K hd) hf hmr
      refine go stp (k _ ⟨_, X', Fr.app N (fun y hy => ?_), ?_⟩)
      · simp only [copyLocs, List.mem_map] at hy
        obtain ⟨i, -, rfl⟩ := hy
        exact Nat.le_add_right _ _
      · have cf := Cell.storeRun_facts cd dp.toNatClampNeg (cs.stretch sp.toNatClampNeg n.toNatClampNeg)
        have sl : (cs.stretch sp.toNatClampNeg n.toNatClampNeg).length = n.toNatClampNeg := Cell.stretch_length cs sp.toNatClampNeg n.toNatClampNeg
        have es : cs.stretch sp.toNatClampNeg n.toNatClampNeg = ((vs.drop sp.toNatClampNeg).take n.toNatClampNeg).map (lf n0) := by
          apply List.ext_getElem?
          intro i
          by_cases hi : i < n.toNatClampNeg
          · obtain ⟨u, -, eu, eu2⟩ := gv i hi
            rw [List.map_take, List.map_drop, List.getElem?_take_of_lt hi, List.getElem?_drop, eu2]
            show ((List.range n.toNatClampNeg).map fun i => cs.slots.getD (sp.toNatClampNeg + i) .null)[i]? = _
            rw [List.getElem?_map, List.getElem?_range hi, Option.map_some, eu]
          · rw [List.getElem?_eq_none (by omega), List.getElem?_eq_none (by rw [List.length_map, List.length_take]; omega)]
        have hlt : n0 + b < T.heap.size := Ad.lt
        have hc : (T.heap.setIfInBounds (n0 + b) (copied cs cd sp dp n))[n0 + b]? = some (copied cs cd sp dp n) := Array.getElem?_setIfInBounds_self_of_lt hlt
        show Rep D Z n0 (T.heap.setIfInBounds (n0 + b) (copied cs cd sp dp n)) _
        refine RA.cell (List.getElem?_eq_some_iff.mp eb).1 ⟨fun _ => ⟨copied cs cd sp dp n, ⟨hc, ?_, ?_⟩, ?_, ?_, ?_⟩, fun z => absurd ht (by omega)⟩
        · obtain ⟨o1, k1, g1, g2⟩ := Ad.2.1
          exact ⟨fun q z => o1 q (cf.2.1 ▸ z), k1, by show Z.vm.classes[(cd.storeRun _ _).cls]? = _; rw [cf.1]; exact g1, g2⟩
        · exact fun z => Ad.2.2 (cf.2.1 ▸ z)
        · have ml' : (((vs.drop sp.toNatClampNeg).take n.toNatClampNeg).map (lf n0)).length = n.toNatClampNeg := by rw [← es]; exact sl
          have tl : ((vd.take dp.toNatClampNeg).map (lf n0)).length = dp.toNatClampNeg := by rw [List.length_map, List.length_take]; omega
          apply List.ext_getElem?
          intro j
          rw [Array.getElem?_toList]
          show (cd.storeRun dp.toNatClampNeg (cs.stretch sp.toNatClampNeg n.toNatClampNeg)).slots[j]? = _
          rw [Cell.storeRun_get _ _ _ _ (by rw [sl, sd]; exact h5), sl, es, List.map_append, List.map_append]
          by_cases c1 : j < dp.toNatClampNeg
          · rw [if_neg (by omega), List.append_assoc, List.getElem?_append_left (by omega), List.map_take, List.getElem?_take_of_lt c1, ← ld, Array.getElem?_toList]
          · by_cases c2 : j < dp.toNatClampNeg + n.toNatClampNeg
            · rw [if_pos ⟨by omega, c2⟩, List.getElem?_append_left (by rw [List.length_append]; omega), List.getElem?_append_right (by omega), tl]
            · rw [if_neg (by omega), List.getElem?_append_right (by rw [List.length_append]; omega), List.length_append, tl, ml', List.map_drop, List.getElem?_drop, ← ld, Array.getElem?_toList]
              congr 1; omega
        · simp only [List.length_map, List.length_append, List.length_take, List.length_drop]; omega
        · intro u hu
          simp only [List.map_append, List.map_take, List.map_drop, List.mem_append] at hu
          rcases hu with (hu | hu) | hu
          · exact fd u (List.mem_of_mem_take hu)
          · exact fs u (List.mem_of_mem_drop (List.mem_of_mem_take hu))
          · exact fd u (List.mem_of_mem_drop hu)
    · cases hq
  · cases hq
/-! a body by its blocks -/
theorem met {y : MethodName} {as : List Value} {r : Option Value} {L0 : Array Slot} (hp : plainFor y = true) (hw : ∀ d ∈ W, d.before a0 Z = true) (hn : y.cls = own) (hnn : y.name = nm) (hef : ∀ m, entryFrame m as.toArray ml = mkF m 0 L0 [])
    (hb : ∀ (p : Program) (e : Env) (s : State) (m : MethodId) (below : List Frame) (meth : Method) (c : Code) (T : State), Cx p l e R s m meth c Z a0 W own nm bytes ml rt → On p l e R s m as.toArray below meth c D Z n0 T A 0 0 → Go p e below (T.setTop (mkF m 0 L0 [])) (Fini D Z n0 s R r A')) :
    Met l D Z n0 y bytes ml rt R as A r A' := by
  intro ws h0 RA
  refine MetFree.of_bodySF hp hisR ?_
  intro p e s m args below meth c s₁ Bd hml0 hP hK
  obtain ⟨rfl, hZ, hh⟩ := hP
  have hown : s.vm.findClass own = some m.cls := hn ▸ findClass_of_methodNamed Bd.named
  have hnm := (name_of_methodNamed Bd.named Bd.method).1
  have X0 : Stand p l e R s m as.toArray below meth c s₁ [] 0 0 := Stand.of_body Bd
  have e0 : s₁.heap = h0 := by rw [← hh, Bd.state]; rfl
  have := hb p e s m below meth c s₁ ⟨Bd.exec, hZ, hown, Bd.bytes, hml0, Bd.returns, Bd.notSynchronized, hnm.trans hnn, hw⟩ ⟨[], X0, Fr.nil n0, by rw [e0]; exact RA⟩
  obtain ⟨t, o, h1, h2, h3, h4⟩ := this
  exact ⟨t, o, castTop (hef m) h1, h2, h3, h4⟩
end Walk
end Jvm.OwnKit
namespace Jvm.OwnKit
open Sem ClassFile Op Lib Jvm.Stand Jvm.Free Jvm.LawKit Jvm.RoadKit
section Instr
variable {p : Program} {l : Launch} {e : Env} {R : Room} {s : State} {m : MethodId} {args : Array Value} {below : List Frame} {meth : Method} {c : Code} {Z : State} {a0 : Array Value} {W : List Jvm.Cond} {own nm : String} {bytes : ByteArray} {ml : Nat} {rt : Option FieldType} {D : Dic} {n0 : Nat} {T : State} {A A' : AH} {cells slots : Nat} {G : Outcome → State → Prop} {pc : Nat} {Ls : Array Slot} {st : List Value}
theorem i_iadd (K : Cx p l e R s m meth c Z a0 W own nm bytes ml rt) (X : On p l e R s m args below meth c D Z n0 T A cells slots) {x y : Int32} {pc' : Nat} (hd : decode bytes pc = .ok (.iadd, 1)) (hp : pc + 1 = pc')
    (k : Go p e below (T.setTop (mkF m pc' Ls (.int (x + y) :: st))) G) : Go p e below (T.setTop (mkF m pc Ls (.int y :: .int x :: st))) G := by
  subst hp; exact go (fun _ => XS.iadd X.here K.1 (g := mkF m pc Ls (.int y :: .int x :: st)) rfl (dc K hd) rfl) k
theorem i_isub (K : Cx p l e R s m meth c Z a0 W own nm bytes ml rt) (X : On p l e R s m args below meth c D Z n0 T A cells slots) {x y : Int32} {pc' : Nat} (hd : decode bytes pc = .ok (.isub, 1)) (hp : pc + 1 = pc')
    (k : Go p e below (T.setTop (mkF m pc' Ls (.int (x - y) :: st))) G) : Go p e below (T.setTop (mkF m pc Ls (.int y :: .int x :: st))) G := by
  subst hp; exact go (fun _ => XS.isub X.here K.1 (g := mkF m pc Ls (.int y :: .int x :: st)) rfl (dc K hd) rfl) k
theorem i_imul (K : Cx p l e R s m meth c Z a0 W own nm bytes ml rt) (X : On p l e R s m args below meth c D Z n0 T A cells slots) {x y : Int32} {pc' : Nat} (hd : decode bytes pc = .ok (.imul, 1)) (hp : pc + 1 = pc')
    (k : Go p e below (T.setTop (mkF m pc' Ls (.int (x * y) :: st))) G) : Go p e below (T.setTop (mkF m pc Ls (.int y :: .int x :: st))) G := by
  subst hp; exact go (fun _ => XS.imul X.here K.1 (g := mkF m pc Ls (.int y :: .int x :: st)) rfl (dc K hd) rfl) k
theorem i_iand (K : Cx p l e R s m meth c Z a0 W own nm bytes ml rt) (X : On p l e R s m args below meth c D Z n0 T A cells slots) {x y : Int32} {pc' : Nat} (hd : decode bytes pc = .ok (.iand, 1)) (hp : pc + 1 = pc')
    (k : Go p e below (T.setTop (mkF m pc' Ls (.int (x &&& y) :: st))) G) : Go p e below (T.setTop (mkF m pc Ls (.int y :: .int x :: st))) G := by
  subst hp; exact go (fun _ => XS.iand X.here K.1 (g := mkF m pc Ls (.int y :: .int x :: st)) rfl (dc K hd) rfl) k
theorem i_ior (K : Cx p l e R s m meth c Z a0 W own nm bytes ml rt) (X : On p l e R s m args below meth c D Z n0 T A cells slots) {x y : Int32} {pc' : Nat} (hd : decode bytes pc = .ok (.ior, 1)) (hp : pc + 1 = pc')
    (k : Go p e below (T.setTop (mkF m pc' Ls (.int (x ||| y) :: st))) G) : Go p e below (T.setTop (mkF m pc Ls (.int y :: .int x :: st))) G := by
  subst hp; exact go (fun _ => XS.ior X.here K.1 (g := mkF m pc Ls (.int y :: .int x :: st)) rfl (dc K hd) rfl) k
theorem i_ixor (K : Cx p l e R s m meth c Z a0 W own nm bytes ml rt) (X : On p l e R s m args below meth c D Z n0 T A cells slots) {x y : Int32} {pc' : Nat} (hd : decode bytes pc = .ok (.ixor, 1)) (hp : pc + 1 = pc')
    (k : Go p e below (T.setTop (mkF m pc' Ls (.int (x ^^^ y) :: st))) G) : Go p e below (T.setTop (mkF m pc Ls (.int y :: .int x :: st))) G := by
  subst hp; exact go (fun _ => XS.ixor X.here K.1 (g := mkF m pc Ls (.int y :: .int x :: st)) rfl (dc K hd) rfl) k
theorem i_ishl (K : Cx p l e R s m meth c Z a0 W own nm bytes ml rt) (X : On p l e R s m args below meth c D Z n0 T A cells slots) {x y : Int32} {pc' : Nat} (hd : decode bytes pc = .ok (.ishl, 1)) (hp : pc + 1 = pc')
    (k : Go p e below (T.setTop (mkF m pc' Ls (.int (x <<< (y &&& 31)) :: st))) G) : Go p e below (T.setTop (mkF m pc Ls (.int y :: .int x :: st))) G := by
  subst hp; exact go (fun _ => XS.ishl X.here K.1 (g := mkF m pc Ls (.int y :: .int x :: st)) rfl (dc K hd) rfl) k
theorem i_ishr (K : Cx p l e R s m meth c Z a0 W own nm bytes ml rt) (X : On p l e R s m args below meth c D Z n0 T A cells slots) {x y : Int32} {pc' : Nat} (hd : decode bytes pc = .ok (.ishr, 1)) (hp : pc + 1 = pc')
    (k : Go p e below (T.setTop (mkF m pc' Ls (.int (x >>> (y &&& 31)) :: st))) G) : Go p e below (T.setTop (mkF m pc Ls (.int y :: .int x :: st))) G := by
  subst hp; exact go (fun _ => XS.ishr X.here K.1 (g := mkF m pc Ls (.int y :: .int x :: st)) rfl (dc K hd) rfl) k
theorem i_iushr (K : Cx p l e R s m meth c Z a0 W own nm bytes ml rt) (X : On p l e R s m args below meth c D Z n0 T A cells slots) {x y : Int32} {pc' : Nat} (hd : decode bytes pc = .ok (.iushr, 1)) (hp : pc + 1 = pc')
    (k : Go p e below (T.setTop (mkF m pc' Ls (.int ((x.toUInt32 >>> (y &&& 31).toUInt32).toInt32) :: st))) G) : Go p e below (T.setTop (mkF m pc Ls (.int y :: .int x :: st))) G := by
  subst hp; exact go (fun _ => XS.iushr X.here K.1 (g := mkF m pc Ls (.int y :: .int x :: st)) rfl (dc K hd) rfl) k
theorem i_idiv (K : Cx p l e R s m meth c Z a0 W own nm bytes ml rt) (X : On p l e R s m args below meth c D Z n0 T A cells slots) {x y : Int32} {pc' : Nat} (hd : decode bytes pc = .ok (.idiv, 1)) (hp : pc + 1 = pc') (hy : y ≠ 0)
    (k : Go p e below (T.setTop (mkF m pc' Ls (.int (x / y) :: st))) G) : Go p e below (T.setTop (mkF m pc Ls (.int y :: .int x :: st))) G := by
  subst hp; exact go (fun _ => XS.idiv X.here K.1 (g := mkF m pc Ls (.int y :: .int x :: st)) rfl (dc K hd) rfl hy) k
theorem i_irem (K : Cx p l e R s m meth c Z a0 W own nm bytes ml rt) (X : On p l e R s m args below meth c D Z n0 T A cells slots) {x y : Int32} {pc' : Nat} (hd : decode bytes pc = .ok (.irem, 1)) (hp : pc + 1 = pc') (hy : y ≠ 0)
    (k : Go p e below (T.setTop (mkF m pc' Ls (.int (x % y) :: st))) G) : Go p e below (T.setTop (mkF m pc Ls (.int y :: .int x :: st))) G := by
  subst hp; rw [← irem_eq_mod] at k; exact go (fun _ => XS.irem X.here K.1 (g := mkF m pc Ls (.int y :: .int x :: st)) rfl (dc K hd) rfl hy) k
theorem i_ladd (K : Cx p l e R s m meth c Z a0 W own nm bytes ml rt) (X : On p l e R s m args below meth c D Z n0 T A cells slots) {x y : Int64} {pc' : Nat} (hd : decode bytes pc = .ok (.ladd, 1)) (hp : pc + 1 = pc')
    (k : Go p e below (T.setTop (mkF m pc' Ls (.long (x + y) :: st))) G) : Go p e below (T.setTop (mkF m pc Ls (.long y :: .long x :: st))) G := by
  subst hp; exact go (fun _ => XS.ladd X.here K.1 (g := mkF m pc Ls (.long y :: .long x :: st)) rfl (dc K hd) rfl) k
theorem i_lsub (K : Cx p l e R s m meth c Z a0 W own nm bytes ml rt) (X : On p l e R s m args below meth c D Z n0 T A cells slots) {x y : Int64} {pc' : Nat} (hd : decode bytes pc = .ok (.lsub, 1)) (hp : pc + 1 = pc')
    (k : Go p e below (T.setTop (mkF m pc' Ls (.long (x - y) :: st))) G) : Go p e below (T.setTop (mkF m pc Ls (.long y :: .long x :: st))) G := by
  subst hp; exact go (fun _ => XS.lsub X.here K.1 (g := mkF m pc Ls (.long y :: .long x :: st)) rfl (dc K hd) rfl) k
theorem i_lmul (K : Cx p l e R s m meth c Z a0 W own nm bytes ml rt) (X : On p l e R s m args below meth c D Z n0 T A cells slots) {x y : Int64} {pc' : Nat} (hd : decode bytes pc = .ok (.lmul, 1)) (hp : pc + 1 = pc')
    (k : Go p e below (T.setTop (mkF m pc' Ls (.long (x * y) :: st))) G) : Go p e below (T.setTop (mkF m pc Ls (.long y :: .long x :: st))) G := by
  subst hp; exact go (fun _ => XS.lmul X.here K.1 (g := mkF m pc Ls (.long y :: .long x :: st)) rfl (dc K hd) rfl) k
theorem i_land (K : Cx p l e R s m meth c Z a0 W own nm bytes ml rt) (X : On p l e R s m args below meth c D Z n0 T A cells slots) {x y : Int64} {pc' : Nat} (hd : decode bytes pc = .ok (.land, 1)) (hp : pc + 1 = pc')
    (k : Go p e below (T.setTop (mkF m pc' Ls (.long (x &&& y) :: st))) G) : Go p e below (T.setTop (mkF m pc Ls (.long y :: .long x :: st))) G := by
  subst hp; exact go (fun _ => XS.land X.here K.1 (g := mkF m pc Ls (.long y :: .long x :: st)) rfl (dc K hd) rfl) k
theorem i_lor (K : Cx p l e R s m meth c Z a0 W own nm bytes ml rt) (X : On p l e R s m args below meth c D Z n0 T A cells slots) {x y : Int64} {pc' : Nat} (hd : decode bytes pc = .ok (.lor, 1)) (hp : pc + 1 = pc')
    (k : Go p e below (T.setTop (mkF m pc' Ls (.long (x ||| y) :: st))) G) : Go p e below (T.setTop (mkF m pc Ls (.long y :: .long x :: st))) G := by
  subst hp; exact go (fun _ => XS.lor X.here K.1 (g := mkF m pc Ls (.long y :: .long x :: st)) rfl (dc K hd) rfl) k
theorem i_lxor (K : Cx p l e R s m meth c Z a0 W own nm bytes ml rt) (X : On p l e R s m args below meth c D Z n0 T A cells slots) {x y : Int64} {pc' : Nat} (hd : decode bytes pc = .ok (.lxor, 1)) (hp : pc + 1 = pc')
    (k : Go p e below (T.setTop (mkF m pc' Ls (.long (x ^^^ y) :: st))) G) : Go p e below (T.setTop (mkF m pc Ls (.long y :: .long x :: st))) G := by
  subst hp; exact go (fun _ => XS.lxor X.here K.1 (g := mkF m pc Ls (.long y :: .long x :: st)) rfl (dc K hd) rfl) k
theorem i_lshl (K : Cx p l e R s m meth c Z a0 W own nm bytes ml rt) (X : On p l e R s m args below meth c D Z n0 T A cells slots) {x : Int64} {y : Int32} {pc' : Nat} (hd : decode bytes pc = .ok (.lshl, 1)) (hp : pc + 1 = pc')
    (k : Go p e below (T.setTop (mkF m pc' Ls (.long (x <<< (y &&& 0x3f).toInt64) :: st))) G) : Go p e below (T.setTop (mkF m pc Ls (.int y :: .long x :: st))) G := by
  subst hp; exact go (fun _ => XS.lshl X.here K.1 (g := mkF m pc Ls (.int y :: .long x :: st)) rfl (dc K hd) rfl) k
theorem i_lshr (K : Cx p l e R s m meth c Z a0 W own nm bytes ml rt) (X : On p l e R s m args below meth c D Z n0 T A cells slots) {x : Int64} {y : Int32} {pc' : Nat} (hd : decode bytes pc = .ok (.lshr, 1)) (hp : pc + 1 = pc')
    (k : Go p e below (T.setTop (mkF m pc' Ls (.long (x >>> (y &&& 0x3f).toInt64) :: st))) G) : Go p e below (T.setTop (mkF m pc Ls (.int y :: .long x :: st))) G := by
  subst hp; exact go (fun _ => XS.lshr X.here K.1 (g := mkF m pc Ls (.int y :: .long x :: st)) rfl (dc K hd) rfl) k
theorem i_lushr (K : Cx p l e R s m meth c Z a0 W own nm bytes ml rt) (X : On p l e R s m args below meth c D Z n0 T A cells slots) {x : Int64} {y : Int32} {pc' : Nat} (hd : decode bytes pc = .ok (.lushr, 1)) (hp : pc + 1 = pc')
    (k : Go p e below (T.setTop (mkF m pc' Ls (.long ((x.toUInt64 >>> (y &&& 0x3f).toInt64.toUInt64).toInt64) :: st))) G) : Go p e below (T.setTop (mkF m pc Ls (.int y :: .long x :: st))) G := by
  subst hp; exact go (fun _ => XS.lushr X.here K.1 (g := mkF m pc Ls (.int y :: .long x :: st)) rfl (dc K hd) rfl) k
theorem i_ldiv (K : Cx p l e R s m meth c Z a0 W own nm bytes ml rt) (X : On p l e R s m args below meth c D Z n0 T A cells slots) {x y : Int64} {pc' : Nat} (hd : decode bytes pc = .ok (.ldiv, 1)) (hp : pc + 1 = pc') (hy : y ≠ 0)
    (k : Go p e below (T.setTop (mkF m pc' Ls (.long (x / y) :: st))) G) : Go p e below (T.setTop (mkF m pc Ls (.long y :: .long x :: st))) G := by
  subst hp; exact go (fun _ => XS.ldiv X.here K.1 (g := mkF m pc Ls (.long y :: .long x :: st)) rfl (dc K hd) rfl hy) k
theorem i_lrem (K : Cx p l e R s m meth c Z a0 W own nm bytes ml rt) (X : On p l e R s m args below meth c D Z n0 T A cells slots) {x y : Int64} {pc' : Nat} (hd : decode bytes pc = .ok (.lrem, 1)) (hp : pc + 1 = pc') (hy : y ≠ 0)
    (k : Go p e below (T.setTop (mkF m pc' Ls (.long (x - (x / y) * y) :: st))) G) : Go p e below (T.setTop (mkF m pc Ls (.long y :: .long x :: st))) G := by
  subst hp; exact go (fun _ => XS.lrem X.here K.1 (g := mkF m pc Ls (.long y :: .long x :: st)) rfl (dc K hd) rfl hy) k
theorem i_ineg (K : Cx p l e R s m meth c Z a0 W own nm bytes ml rt) (X : On p l e R s m args below meth c D Z n0 T A cells slots) {x : Int32} {pc' : Nat} (hd : decode bytes pc = .ok (.ineg, 1)) (hp : pc + 1 = pc')
    (k : Go p e below (T.setTop (mkF m pc' Ls (.int (-x) :: st))) G) : Go p e below (T.setTop (mkF m pc Ls (.int x :: st))) G := by
  subst hp; exact go (fun _ => XS.ineg X.here K.1 (g := mkF m pc Ls (.int x :: st)) rfl (dc K hd) rfl) k
theorem i_lneg (K : Cx p l e R s m meth c Z a0 W own nm bytes ml rt) (X : On p l e R s m args below meth c D Z n0 T A cells slots) {x : Int64} {pc' : Nat} (hd : decode bytes pc = .ok (.lneg, 1)) (hp : pc + 1 = pc')
    (k : Go p e below (T.setTop (mkF m pc' Ls (.long (-x) :: st))) G) : Go p e below (T.setTop (mkF m pc Ls (.long x :: st))) G := by
  subst hp; exact go (fun _ => XS.lneg X.here K.1 (g := mkF m pc Ls (.long x :: st)) rfl (dc K hd) rfl) k
theorem i_i2b (K : Cx p l e R s m meth c Z a0 W own nm bytes ml rt) (X : On p l e R s m args below meth c D Z n0 T A cells slots) {x : Int32} {pc' : Nat} (hd : decode bytes pc = .ok (.i2b, 1)) (hp : pc + 1 = pc')
    (k : Go p e below (T.setTop (mkF m pc' Ls (.int (x.toInt8.toInt32) :: st))) G) : Go p e below (T.setTop (mkF m pc Ls (.int x :: st))) G := by
  subst hp; exact go (fun _ => XS.i2b X.here K.1 (g := mkF m pc Ls (.int x :: st)) rfl (dc K hd) rfl) k
theorem i_i2c (K : Cx p l e R s m meth c Z a0 W own nm bytes ml rt) (X : On p l e R s m args below meth c D Z n0 T A cells slots) {x : Int32} {pc' : Nat} (hd : decode bytes pc = .ok (.i2c, 1)) (hp : pc + 1 = pc')
    (k : Go p e below (T.setTop (mkF m pc' Ls (.int (x.toUInt32.toUInt16.toUInt32.toInt32) :: st))) G) : Go p e below (T.setTop (mkF m pc Ls (.int x :: st))) G := by
  subst hp; exact go (fun _ => XS.i2c X.here K.1 (g := mkF m pc Ls (.int x :: st)) rfl (dc K hd) rfl) k
theorem i_i2s (K : Cx p l e R s m meth c Z a0 W own nm bytes ml rt) (X : On p l e R s m args below meth c D Z n0 T A cells slots) {x : Int32} {pc' : Nat} (hd : decode bytes pc = .ok (.i2s, 1)) (hp : pc + 1 = pc')
    (k : Go p e below (T.setTop (mkF m pc' Ls (.int (x.toInt16.toInt32) :: st))) G) : Go p e below (T.setTop (mkF m pc Ls (.int x :: st))) G := by
  subst hp; exact go (fun _ => XS.i2s X.here K.1 (g := mkF m pc Ls (.int x :: st)) rfl (dc K hd) rfl) k
theorem i_i2l (K : Cx p l e R s m meth c Z a0 W own nm bytes ml rt) (X : On p l e R s m args below meth c D Z n0 T A cells slots) {x : Int32} {pc' : Nat} (hd : decode bytes pc = .ok (.i2l, 1)) (hp : pc + 1 = pc')
    (k : Go p e below (T.setTop (mkF m pc' Ls (.long (x.toInt64) :: st))) G) : Go p e below (T.setTop (mkF m pc Ls (.int x :: st))) G := by
  subst hp; exact go (fun _ => XS.i2l X.here K.1 (g := mkF m pc Ls (.int x :: st)) rfl (dc K hd) rfl) k
theorem i_l2i (K : Cx p l e R s m meth c Z a0 W own nm bytes ml rt) (X : On p l e R s m args below meth c D Z n0 T A cells slots) {x : Int64} {pc' : Nat} (hd : decode bytes pc = .ok (.l2i, 1)) (hp : pc + 1 = pc')
    (k : Go p e below (T.setTop (mkF m pc' Ls (.int (x.toInt32) :: st))) G) : Go p e below (T.setTop (mkF m pc Ls (.long x :: st))) G := by
  subst hp; exact go (fun _ => XS.l2i X.here K.1 (g := mkF m pc Ls (.long x :: st)) rfl (dc K hd) rfl) k
theorem i_lcmp (K : Cx p l e R s m meth c Z a0 W own nm bytes ml rt) (X : On p l e R s m args below meth c D Z n0 T A cells slots) {x y : Int64} {pc' : Nat} (hd : decode bytes pc = .ok (.lcmp, 1)) (hp : pc + 1 = pc')
    (k : Go p e below (T.setTop (mkF m pc' Ls (.int (lcmpW x y) :: st))) G) : Go p e below (T.setTop (mkF m pc Ls (.long y :: .long x :: st))) G := by
  subst hp; exact go (fun _ => XS.lcmp X.here K.1 (g := mkF m pc Ls (.long y :: .long x :: st)) rfl (dc K hd) rfl) k
theorem i_pop (K : Cx p l e R s m meth c Z a0 W own nm bytes ml rt) (X : On p l e R s m args below meth c D Z n0 T A cells slots) {x : Value} {pc' : Nat} (hd : decode bytes pc = .ok (.pop, 1)) (hp : pc + 1 = pc') (h1 : x.category = 1)
    (k : Go p e below (T.setTop (mkF m pc' Ls (st))) G) : Go p e below (T.setTop (mkF m pc Ls (x :: st))) G := by
  subst hp; exact go (fun _ => XS.pop X.here K.1 (g := mkF m pc Ls (x :: st)) rfl (dc K hd) rfl h1) k
theorem i_dup (K : Cx p l e R s m meth c Z a0 W own nm bytes ml rt) (X : On p l e R s m args below meth c D Z n0 T A cells slots) {x : Value} {pc' : Nat} (hd : decode bytes pc = .ok (.dup, 1)) (hp : pc + 1 = pc') (h1 : x.category = 1)
    (k : Go p e below (T.setTop (mkF m pc' Ls (x :: x :: st))) G) : Go p e below (T.setTop (mkF m pc Ls (x :: st))) G := by
  subst hp; exact go (fun _ => XS.dup X.here K.1 (g := mkF m pc Ls (x :: st)) rfl (dc K hd) rfl h1) k
theorem i_dupX1 (K : Cx p l e R s m meth c Z a0 W own nm bytes ml rt) (X : On p l e R s m args below meth c D Z n0 T A cells slots) {x y : Value} {pc' : Nat} (hd : decode bytes pc = .ok (.dup_x1, 1)) (hp : pc + 1 = pc') (h1 : x.category = 1) (h2 : y.category = 1)
    (k : Go p e below (T.setTop (mkF m pc' Ls (x :: y :: x :: st))) G) : Go p e below (T.setTop (mkF m pc Ls (x :: y :: st))) G := by
  subst hp; exact go (fun _ => XS.dupX1 X.here K.1 (g := mkF m pc Ls (x :: y :: st)) rfl (dc K hd) rfl h1 h2) k
theorem i_swap (K : Cx p l e R s m meth c Z a0 W own nm bytes ml rt) (X : On p l e R s m args below meth c D Z n0 T A cells slots) {x y : Value} {pc' : Nat} (hd : decode bytes pc = .ok (.swap, 1)) (hp : pc + 1 = pc') (h1 : x.category = 1) (h2 : y.category = 1)
    (k : Go p e below (T.setTop (mkF m pc' Ls (y :: x :: st))) G) : Go p e below (T.setTop (mkF m pc Ls (x :: y :: st))) G := by
  subst hp; exact go (fun _ => XS.swap X.here K.1 (g := mkF m pc Ls (x :: y :: st)) rfl (dc K hd) rfl h1 h2) k
theorem i_iload (K : Cx p l e R s m meth c Z a0 W own nm bytes ml rt) (X : On p l e R s m args below meth c D Z n0 T A cells slots) {v : Int32} {i : Nat} {pc' : Nat} (hd : decode bytes pc = .ok (.iload i, 2)) (hp : pc + 2 = pc') (hl : Ls[i]? = some (.val (.int v)))
    (k : Go p e below (T.setTop (mkF m pc' Ls (.int v :: st))) G) : Go p e below (T.setTop (mkF m pc Ls (st))) G := by
  subst hp; exact go (fun _ => XS.iload X.here K.1 (g := mkF m pc Ls (st)) rfl (dc K hd) hl) k
theorem i_iloadN (K : Cx p l e R s m meth c Z a0 W own nm bytes ml rt) (X : On p l e R s m args below meth c D Z n0 T A cells slots) {v : Int32} {i : Fin 4} {pc' : Nat} (hd : decode bytes pc = .ok (.iload_n i, 1)) (hp : pc + 1 = pc') (hl : Ls[i.val]? = some (.val (.int v)))
    (k : Go p e below (T.setTop (mkF m pc' Ls (.int v :: st))) G) : Go p e below (T.setTop (mkF m pc Ls (st))) G := by
  subst hp; exact go (fun _ => XS.iloadN X.here K.1 (g := mkF m pc Ls (st)) rfl (dc K hd) hl) k
theorem i_lload (K : Cx p l e R s m meth c Z a0 W own nm bytes ml rt) (X : On p l e R s m args below meth c D Z n0 T A cells slots) {v : Int64} {i : Nat} {pc' : Nat} (hd : decode bytes pc = .ok (.lload i, 2)) (hp : pc + 2 = pc') (hl : Ls[i]? = some (.val (.long v)))
    (k : Go p e below (T.setTop (mkF m pc' Ls (.long v :: st))) G) : Go p e below (T.setTop (mkF m pc Ls (st))) G := by
  subst hp; exact go (fun _ => XS.lload X.here K.1 (g := mkF m pc Ls (st)) rfl (dc K hd) hl) k
theorem i_lloadN (K : Cx p l e R s m meth c Z a0 W own nm bytes ml rt) (X : On p l e R s m args below meth c D Z n0 T A cells slots) {v : Int64} {i : Fin 4} {pc' : Nat} (hd : decode bytes pc = .ok (.lload_n i, 1)) (hp : pc + 1 = pc') (hl : Ls[i.val]? = some (.val (.long v)))
    (k : Go p e below (T.setTop (mkF m pc' Ls (.long v :: st))) G) : Go p e below (T.setTop (mkF m pc Ls (st))) G := by
  subst hp; exact go (fun _ => XS.lloadN X.here K.1 (g := mkF m pc Ls (st)) rfl (dc K hd) hl) k
theorem i_aload (K : Cx p l e R s m meth c Z a0 W own nm bytes ml rt) (X : On p l e R s m args below meth c D Z n0 T A cells slots) {v : Value} {i : Nat} {pc' : Nat} (hd : decode bytes pc = .ok (.aload i, 2)) (hp : pc + 2 = pc') (hl : Ls[i]? = some (.val v)) (hv : v.isRef = true)
    (k : Go p e below (T.setTop (mkF m pc' Ls (v :: st))) G) : Go p e below (T.setTop (mkF m pc Ls (st))) G := by
  subst hp; exact go (fun _ => XS.aload X.here K.1 (g := mkF m pc Ls (st)) rfl (dc K hd) hl hv) k
theorem i_aloadN (K : Cx p l e R s m meth c Z a0 W own nm bytes ml rt) (X : On p l e R s m args below meth c D Z n0 T A cells slots) {v : Value} {i : Fin 4} {pc' : Nat} (hd : decode bytes pc = .ok (.aload_n i, 1)) (hp : pc + 1 = pc') (hl : Ls[i.val]? = some (.val v)) (hv : v.isRef = true)
    (k : Go p e below (T.setTop (mkF m pc' Ls (v :: st))) G) : Go p e below (T.setTop (mkF m pc Ls (st))) G := by
  subst hp; exact go (fun _ => XS.aloadN X.here K.1 (g := mkF m pc Ls (st)) rfl (dc K hd) hl hv) k
theorem i_istore (K : Cx p l e R s m meth c Z a0 W own nm bytes ml rt) (X : On p l e R s m args below meth c D Z n0 T A cells slots) {v : Int32} {i : Nat} {Ls' : Array Slot} {pc' : Nat} (hd : decode bytes pc = .ok (.istore i, 2)) (hp : pc + 2 = pc') (hl : storeLocals Ls i (.int v) = some Ls')
    (k : Go p e below (T.setTop (mkF m pc' Ls' (st))) G) : Go p e below (T.setTop (mkF m pc Ls (.int v :: st))) G := by
  subst hp; exact go (fun _ => XS.istore X.here K.1 (g := mkF m pc Ls (.int v :: st)) rfl (dc K hd) rfl hl) k
theorem i_istoreN (K : Cx p l e R s m meth c Z a0 W own nm bytes ml rt) (X : On p l e R s m args below meth c D Z n0 T A cells slots) {v : Int32} {i : Fin 4} {Ls' : Array Slot} {pc' : Nat} (hd : decode bytes pc = .ok (.istore_n i, 1)) (hp : pc + 1 = pc') (hl : storeLocals Ls i.val (.int v) = some Ls')
    (k : Go p e below (T.setTop (mkF m pc' Ls' (st))) G) : Go p e below (T.setTop (mkF m pc Ls (.int v :: st))) G := by
  subst hp; exact go (fun _ => XS.istoreN X.here K.1 (g := mkF m pc Ls (.int v :: st)) rfl (dc K hd) rfl hl) k
theorem i_lstore (K : Cx p l e R s m meth c Z a0 W own nm bytes ml rt) (X : On p l e R s m args below meth c D Z n0 T A cells slots) {v : Int64} {i : Nat} {Ls' : Array Slot} {pc' : Nat} (hd : decode bytes pc = .ok (.lstore i, 2)) (hp : pc + 2 = pc') (hl : storeLocals Ls i (.long v) = some Ls')
    (k : Go p e below (T.setTop (mkF m pc' Ls' (st))) G) : Go p e below (T.setTop (mkF m pc Ls (.long v :: st))) G := by
  subst hp; exact go (fun _ => XS.lstore X.here K.1 (g := mkF m pc Ls (.long v :: st)) rfl (dc K hd) rfl hl) k
theorem i_lstoreN (K : Cx p l e R s m meth c Z a0 W own nm bytes ml rt) (X : On p l e R s m args below meth c D Z n0 T A cells slots) {v : Int64} {i : Fin 4} {Ls' : Array Slot} {pc' : Nat} (hd : decode bytes pc = .ok (.lstore_n i, 1)) (hp : pc + 1 = pc') (hl : storeLocals Ls i.val (.long v) = some Ls')
    (k : Go p e below (T.setTop (mkF m pc' Ls' (st))) G) : Go p e below (T.setTop (mkF m pc Ls (.long v :: st))) G := by
  subst hp; exact go (fun _ => XS.lstoreN X.here K.1 (g := mkF m pc Ls (.long v :: st)) rfl (dc K hd) rfl hl) k
theorem i_astore (K : Cx p l e R s m meth c Z a0 W own nm bytes ml rt) (X : On p l e R s m args below meth c D Z n0 T A cells slots) {v : Value} {i : Nat} {Ls' : Array Slot} {pc' : Nat} (hd : decode bytes pc = .ok (.astore i, 2)) (hp : pc + 2 = pc') (hl : storeLocals Ls i v = some Ls') (hv : v.isRef = true)
    (k : Go p e below (T.setTop (mkF m pc' Ls' (st))) G) : Go p e below (T.setTop (mkF m pc Ls (v :: st))) G := by
  subst hp; exact go (fun _ => XS.astore X.here K.1 (g := mkF m pc Ls (v :: st)) rfl (dc K hd) rfl hv hl) k
theorem i_astoreN (K : Cx p l e R s m meth c Z a0 W own nm bytes ml rt) (X : On p l e R s m args below meth c D Z n0 T A cells slots) {v : Value} {i : Fin 4} {Ls' : Array Slot} {pc' : Nat} (hd : decode bytes pc = .ok (.astore_n i, 1)) (hp : pc + 1 = pc') (hl : storeLocals Ls i.val v = some Ls') (hv : v.isRef = true)
    (k : Go p e below (T.setTop (mkF m pc' Ls' (st))) G) : Go p e below (T.setTop (mkF m pc Ls (v :: st))) G := by
  subst hp; exact go (fun _ => XS.astoreN X.here K.1 (g := mkF m pc Ls (v :: st)) rfl (dc K hd) rfl hv hl) k
theorem i_iconst (K : Cx p l e R s m meth c Z a0 W own nm bytes ml rt) (X : On p l e R s m args below meth c D Z n0 T A cells slots) {i : Int} {v : Int32} {pc' : Nat} (hd : decode bytes pc = .ok (.iconst i, 1)) (hp : pc + 1 = pc') (hv : Int32.ofInt i = v)
    (k : Go p e below (T.setTop (mkF m pc' Ls (.int v :: st))) G) : Go p e below (T.setTop (mkF m pc Ls st)) G := by
  subst hp hv; exact go (fun _ => XS.iconst X.here K.1 (g := mkF m pc Ls st) rfl (dc K hd)) k
theorem i_bipush (K : Cx p l e R s m meth c Z a0 W own nm bytes ml rt) (X : On p l e R s m args below meth c D Z n0 T A cells slots) {i : Int} {v : Int32} {pc' : Nat} (hd : decode bytes pc = .ok (.bipush i, 2)) (hp : pc + 2 = pc') (hv : (Int8.ofInt i).toInt32 = v)
    (k : Go p e below (T.setTop (mkF m pc' Ls (.int v :: st))) G) : Go p e below (T.setTop (mkF m pc Ls st)) G := by
  subst hp hv; exact go (fun _ => XS.bipush X.here K.1 (g := mkF m pc Ls st) rfl (dc K hd)) k
theorem i_sipush (K : Cx p l e R s m meth c Z a0 W own nm bytes ml rt) (X : On p l e R s m args below meth c D Z n0 T A cells slots) {i : Int} {v : Int32} {pc' : Nat} (hd : decode bytes pc = .ok (.sipush i, 3)) (hp : pc + 3 = pc') (hv : (Int16.ofInt i).toInt32 = v)
    (k : Go p e below (T.setTop (mkF m pc' Ls (.int v :: st))) G) : Go p e below (T.setTop (mkF m pc Ls st)) G := by
  subst hp hv; exact go (fun _ => XS.sipush X.here K.1 (g := mkF m pc Ls st) rfl (dc K hd)) k
theorem i_lconst (K : Cx p l e R s m meth c Z a0 W own nm bytes ml rt) (X : On p l e R s m args below meth c D Z n0 T A cells slots) {i : Fin 2} {v : Int64} {pc' : Nat} (hd : decode bytes pc = .ok (.lconst i, 1)) (hp : pc + 1 = pc') (hv : Int64.ofNat i = v)
    (k : Go p e below (T.setTop (mkF m pc' Ls (.long v :: st))) G) : Go p e below (T.setTop (mkF m pc Ls st)) G := by
  subst hp hv; exact go (fun _ => XS.lconst X.here K.1 (g := mkF m pc Ls st) rfl (dc K hd)) k
theorem i_aconstNull (K : Cx p l e R s m meth c Z a0 W own nm bytes ml rt) (X : On p l e R s m args below meth c D Z n0 T A cells slots)  {pc' : Nat} (hd : decode bytes pc = .ok (.aconst_null, 1)) (hp : pc + 1 = pc')
    (k : Go p e below (T.setTop (mkF m pc' Ls (.null :: st))) G) : Go p e below (T.setTop (mkF m pc Ls (st))) G := by
  subst hp; exact go (fun _ => XS.aconstNull X.here K.1 (g := mkF m pc Ls (st)) rfl (dc K hd)) k
theorem i_iinc (K : Cx p l e R s m meth c Z a0 W own nm bytes ml rt) (X : On p l e R s m args below meth c D Z n0 T A cells slots) {x y : Int32} {i : Nat} {cst : Int} {Ls' : Array Slot} {pc' : Nat} (hd : decode bytes pc = .ok (.iinc i cst, 3)) (hp : pc + 3 = pc') (hl : Ls[i]? = some (.val (.int x))) (hy : Int32.ofInt cst = y) (hl' : storeLocals Ls i (.int (x + y)) = some Ls')
    (k : Go p e below (T.setTop (mkF m pc' Ls' st)) G) : Go p e below (T.setTop (mkF m pc Ls st)) G := by
  subst hp hy; exact go (fun _ => XS.iinc X.here K.1 (g := mkF m pc Ls st) rfl (dc K hd) hl hl') k
theorem i_goto (K : Cx p l e R s m meth c Z a0 W own nm bytes ml rt) (X : On p l e R s m args below meth c D Z n0 T A cells slots)  {o : Int} {pc' : Nat} (hd : decode bytes pc = .ok (.goto o, 3))  (ho : 0 ≤ (pc : Int) + o) (hp : ((pc : Int) + o).toNat = pc')
    (k : Go p e below (T.setTop (mkF m pc' Ls st)) G) : Go p e below (T.setTop (mkF m pc Ls (st))) G := by
  exact go (fun _ => XS.goto X.here K.1 (g := mkF m pc Ls (st)) rfl (pc0 := pc) (pc' := pc') rfl (dc K hd)  ho hp) k
theorem i_ifYes (K : Cx p l e R s m meth c Z a0 W own nm bytes ml rt) (X : On p l e R s m args below meth c D Z n0 T A cells slots) {cd : ClassFile.Cond} {x : Int32} {o : Int} {pc' : Nat} (hd : decode bytes pc = .ok (.ifCond cd o, 3)) (h : if_icmp.holds cd x 0 = true) (ho : 0 ≤ (pc : Int) + o) (hp : ((pc : Int) + o).toNat = pc')
    (k : Go p e below (T.setTop (mkF m pc' Ls st)) G) : Go p e below (T.setTop (mkF m pc Ls (.int x :: st))) G := by
  exact go (fun _ => XS.ifYes X.here K.1 (g := mkF m pc Ls (.int x :: st)) rfl (pc0 := pc) (pc' := pc') rfl (dc K hd) rfl ((if0 _ _).trans h) ho hp) k
theorem i_icmpYes (K : Cx p l e R s m meth c Z a0 W own nm bytes ml rt) (X : On p l e R s m args below meth c D Z n0 T A cells slots) {cd : ClassFile.Cond} {x y : Int32} {o : Int} {pc' : Nat} (hd : decode bytes pc = .ok (.if_icmp cd o, 3)) (h : if_icmp.holds cd x y = true) (ho : 0 ≤ (pc : Int) + o) (hp : ((pc : Int) + o).toNat = pc')
    (k : Go p e below (T.setTop (mkF m pc' Ls st)) G) : Go p e below (T.setTop (mkF m pc Ls (.int y :: .int x :: st))) G := by
  exact go (fun _ => XS.icmpYes X.here K.1 (g := mkF m pc Ls (.int y :: .int x :: st)) rfl (pc0 := pc) (pc' := pc') rfl (dc K hd) rfl h ho hp) k
theorem i_ifNo (K : Cx p l e R s m meth c Z a0 W own nm bytes ml rt) (X : On p l e R s m args below meth c D Z n0 T A cells slots) {cd : ClassFile.Cond} {x : Int32} {o : Int} {pc' : Nat} (hd : decode bytes pc = .ok (.ifCond cd o, 3)) (hp : pc + 3 = pc') (h : if_icmp.holds cd x 0 = false)
    (k : Go p e below (T.setTop (mkF m pc' Ls (st))) G) : Go p e below (T.setTop (mkF m pc Ls (.int x :: st))) G := by
  subst hp; exact go (fun _ => XS.ifNo X.here K.1 (g := mkF m pc Ls (.int x :: st)) rfl (dc K hd) rfl ((if0 _ _).trans h)) k
theorem i_icmpNo (K : Cx p l e R s m meth c Z a0 W own nm bytes ml rt) (X : On p l e R s m args below meth c D Z n0 T A cells slots) {cd : ClassFile.Cond} {x y : Int32} {o : Int} {pc' : Nat} (hd : decode bytes pc = .ok (.if_icmp cd o, 3)) (hp : pc + 3 = pc') (h : if_icmp.holds cd x y = false)
    (k : Go p e below (T.setTop (mkF m pc' Ls (st))) G) : Go p e below (T.setTop (mkF m pc Ls (.int y :: .int x :: st))) G := by
  subst hp; exact go (fun _ => XS.icmpNo X.here K.1 (g := mkF m pc Ls (.int y :: .int x :: st)) rfl (dc K hd) rfl h) k
theorem i_ifnullYes (K : Cx p l e R s m meth c Z a0 W own nm bytes ml rt) (X : On p l e R s m args below meth c D Z n0 T A cells slots)  {o : Int} {pc' : Nat} (hd : decode bytes pc = .ok (.ifnull o, 3))  (ho : 0 ≤ (pc : Int) + o) (hp : ((pc : Int) + o).toNat = pc')
    (k : Go p e below (T.setTop (mkF m pc' Ls st)) G) : Go p e below (T.setTop (mkF m pc Ls (.null :: st))) G := by
  exact go (fun _ => XS.ifnullYes X.here K.1 (g := mkF m pc Ls (.null :: st)) rfl (pc0 := pc) (pc' := pc') rfl (dc K hd) rfl ho hp) k
theorem i_ifnullNo (K : Cx p l e R s m meth c Z a0 W own nm bytes ml rt) (X : On p l e R s m args below meth c D Z n0 T A cells slots) {b : Addr} {o : Int} {pc' : Nat} (hd : decode bytes pc = .ok (.ifnull o, 3)) (hp : pc + 3 = pc')
    (k : Go p e below (T.setTop (mkF m pc' Ls (st))) G) : Go p e below (T.setTop (mkF m pc Ls (.ref b :: st))) G := by
  subst hp; exact go (fun _ => XS.ifnullNo X.here K.1 (g := mkF m pc Ls (.ref b :: st)) rfl (dc K hd) rfl) k
theorem i_ifnonnullYes (K : Cx p l e R s m meth c Z a0 W own nm bytes ml rt) (X : On p l e R s m args below meth c D Z n0 T A cells slots) {b : Addr} {o : Int} {pc' : Nat} (hd : decode bytes pc = .ok (.ifnonnull o, 3))  (ho : 0 ≤ (pc : Int) + o) (hp : ((pc : Int) + o).toNat = pc')
    (k : Go p e below (T.setTop (mkF m pc' Ls st)) G) : Go p e below (T.setTop (mkF m pc Ls (.ref b :: st))) G := by
  exact go (fun _ => XS.ifnonnullYes X.here K.1 (g := mkF m pc Ls (.ref b :: st)) rfl (pc0 := pc) (pc' := pc') rfl (dc K hd) rfl ho hp) k
theorem i_ifnonnullNo (K : Cx p l e R s m meth c Z a0 W own nm bytes ml rt) (X : On p l e R s m args below meth c D Z n0 T A cells slots) {o : Int} {pc' : Nat} (hd : decode bytes pc = .ok (.ifnonnull o, 3)) (hp : pc + 3 = pc')
    (k : Go p e below (T.setTop (mkF m pc' Ls (st))) G) : Go p e below (T.setTop (mkF m pc Ls (.null :: st))) G := by
  subst hp; exact go (fun _ => XS.ifnonnullNo X.here K.1 (g := mkF m pc Ls (.null :: st)) rfl (dc K hd) rfl) k
theorem i_dup2 (K : Cx p l e R s m meth c Z a0 W own nm bytes ml rt) (X : On p l e R s m args below meth c D Z n0 T A cells slots) {x y : Value} {pc' : Nat} (hd : decode bytes pc = .ok (.dup2, 1)) (hp : pc + 1 = pc') (h1 : x.category = 1) (h2 : y.category = 1)
    (k : Go p e below (T.setTop (mkF m pc' Ls (x :: y :: x :: y :: st))) G) : Go p e below (T.setTop (mkF m pc Ls (x :: y :: st))) G := by
  subst hp; exact go (fun _ => Jvm.Free.XT.dup2 X.here K.1 (g := mkF m pc Ls (x :: y :: st)) rfl (dc K hd) rfl h1 h2) k
theorem i_dup2L (K : Cx p l e R s m meth c Z a0 W own nm bytes ml rt) (X : On p l e R s m args below meth c D Z n0 T A cells slots) {x : Int64} {pc' : Nat} (hd : decode bytes pc = .ok (.dup2, 1)) (hp : pc + 1 = pc') 
    (k : Go p e below (T.setTop (mkF m pc' Ls (.long x :: .long x :: st))) G) : Go p e below (T.setTop (mkF m pc Ls (.long x :: st))) G := by
  subst hp; exact go (fun _ => Jvm.Free.XT.dup2L X.here K.1 (g := mkF m pc Ls (.long x :: st)) rfl (dc K hd) rfl) k
theorem i_dupX2 (K : Cx p l e R s m meth c Z a0 W own nm bytes ml rt) (X : On p l e R s m args below meth c D Z n0 T A cells slots) {x : Int32} {y : Int32} {z : Addr} {pc' : Nat} (hd : decode bytes pc = .ok (.dup_x2, 1)) (hp : pc + 1 = pc')
    (k : Go p e below (T.setTop (mkF m pc' Ls (.int x :: .int y :: .ref z :: .int x :: st))) G) : Go p e below (T.setTop (mkF m pc Ls (.int x :: .int y :: .ref z :: st))) G := by
  subst hp
  refine go (fun t hk => ?_) k
  have hdc := dc K hd
  jvm_step X.here [X.here.top, K.1, hdc, Value.category]
  exact hk
theorem i_dup2X1 (K : Cx p l e R s m meth c Z a0 W own nm bytes ml rt) (X : On p l e R s m args below meth c D Z n0 T A cells slots) {x : Int64} {z : Addr} {pc' : Nat} (hd : decode bytes pc = .ok (.dup2_x1, 1)) (hp : pc + 1 = pc')
    (k : Go p e below (T.setTop (mkF m pc' Ls (.long x :: .ref z :: .long x :: st))) G) : Go p e below (T.setTop (mkF m pc Ls (.long x :: .ref z :: st))) G := by
  subst hp
  refine go (fun t hk => ?_) k
  have hdc := dc K hd
  jvm_step X.here [X.here.top, K.1, hdc, Value.category]
  exact hk
theorem i_dup2X2 (K : Cx p l e R s m meth c Z a0 W own nm bytes ml rt) (X : On p l e R s m args below meth c D Z n0 T A cells slots) {x : Int64} {y : Int32} {z : Addr} {pc' : Nat} (hd : decode bytes pc = .ok (.dup2_x2, 1)) (hp : pc + 1 = pc')
    (k : Go p e below (T.setTop (mkF m pc' Ls (.long x :: .int y :: .ref z :: .long x :: st))) G) : Go p e below (T.setTop (mkF m pc Ls (.long x :: .int y :: .ref z :: st))) G := by
  subst hp
  refine go (fun t hk => ?_) k
  have hdc := dc K hd
  jvm_step X.here [X.here.top, K.1, hdc, Value.category]
  exact hk
theorem stOne {Ls Ls' : Array Slot} {i : Nat} {v : Value} {o : Slot} (h : One o) (hold : Ls[i]? = some o) (hv : v.category = 1) (e : Ls.setIfInBounds i (.val v) = Ls') : storeLocals Ls i v = some Ls' := by
  rw [← e]; exact XS.store1 hold h hv
theorem bs {α β : Type} {o : Option α} {f : α → Option β} {b : β} (h : o.bind f = some b) : ∃ a, o = some a ∧ f a = some b := Option.bind_eq_some_iff.mp h
end Instr
end Jvm.OwnKit
namespace Jvm.Pilot.@@N@@
open Jvm Jvm.ClassFile Sem Op Lib Jvm.Free Jvm.Stand Jvm.LawKit Jvm.RoadKit Jvm.OwnKit Bundle Jvm.Pilot.@@N@@.Jvm.D
def own_D : Dic
  | 10 => ("com/example/thabiti/thabiti/core/Bindings", [("com/example/thabiti/thabiti/core/Bindings", "trail", "[I"), ("com/example/thabiti/thabiti/core/Bindings", "firstNull", "I"), ("com/example/thabiti/thabiti/core/Bindings", "parent", "[I"), ("com/example/thabiti/thabiti/core/Bindings", "size", "[I"), ("com/example/thabiti/thabiti/core/Bindings", "value", "[I"), ("com/example/thabiti/thabiti/core/Bindings", "constant", "[Z"), ("com/example/thabiti/thabiti/core/Bindings", "trailLength", "I")])
  | _ => ("", [])
theorem own_sep {Z : State} {a0 : Array Value} (hw : ∀ d ∈ tables_1, d.before a0 Z = true) : ∀ t, Sep Z (own_D t).2 := by
  intro t
  unfold own_D
  split
  · refine sep_of (a0 := a0) (C := "com/example/thabiti/thabiti/core/Bindings") (fun x hx => ?_) (by decide)
    simp only [List.mem_cons, List.not_mem_nil, or_false] at hx
    rcases hx with rfl | rfl | rfl | rfl | rfl | rfl | rfl
    · exact ⟨Or.inl (hw _ (List.mem_of_getElem? (i := 11) rfl)), by decide⟩
    · exact ⟨Or.inr (hw _ (List.mem_of_getElem? (i := 13) rfl)), by decide⟩
    · exact ⟨Or.inr (hw _ (List.mem_of_getElem? (i := 15) rfl)), by decide⟩
    · exact ⟨Or.inr (hw _ (List.mem_of_getElem? (i := 17) rfl)), by decide⟩
    · exact ⟨Or.inr (hw _ (List.mem_of_getElem? (i := 19) rfl)), by decide⟩
    · exact ⟨Or.inr (hw _ (List.mem_of_getElem? (i := 22) rfl)), by decide⟩
    · exact ⟨Or.inl (hw _ (List.mem_of_getElem? (i := 54) rfl)), by decide⟩
  · exact Sep.nil
def own_ds10 : List Value := [.null, (.int 0), .null, .null, .null, .null, (.int 0)]
theorem own_dsL10 {p : Program} {l : Launch} {e : Env} {R : Room} {s : State} {m : MethodId} {meth : Method} {c : Code} {Z : State} {a0 : Array Value} {own nm : String} {bytes : ByteArray} {ml n0 : Nat} {rt : Option FieldType} (K : Cx p l e R s m meth c Z a0 tables_1 own nm bytes ml rt) : ∀ (k : Nat) (O f d : String) (v : Value), (own_D 10).2[k]? = some (O, f, d) → own_ds10[k]? = some v → ∃ ty, parseFieldDescriptor d = some ty ∧ Laid Z a0 (own_D 10).1 O f d ∧ lf n0 v = defaultValue ty := by
  intro k O f d v h1 h2
  rcases k with _ | _ | _ | _ | _ | _ | _ |  k
  · simp only [own_D, own_ds10, List.getElem?_cons_zero, List.getElem?_cons_succ, Option.some.injEq, Prod.mk.injEq] at h1 h2
    obtain ⟨rfl, rfl, rfl⟩ := h1; subst h2
    exact ⟨(.array .int), by decide, Or.inl (wd K (i := 11) rfl), rfl⟩
  · simp only [own_D, own_ds10, List.getElem?_cons_zero, List.getElem?_cons_succ, Option.some.injEq, Prod.mk.injEq] at h1 h2
    obtain ⟨rfl, rfl, rfl⟩ := h1; subst h2
    exact ⟨.int, by decide, Or.inr (wd K (i := 13) rfl), rfl⟩
  · simp only [own_D, own_ds10, List.getElem?_cons_zero, List.getElem?_cons_succ, Option.some.injEq, Prod.mk.injEq] at h1 h2
    obtain ⟨rfl, rfl, rfl⟩ := h1; subst h2
    exact ⟨(.array .int), by decide, Or.inr (wd K (i := 15) rfl), rfl⟩
  · simp only [own_D, own_ds10, List.getElem?_cons_zero, List.getElem?_cons_succ, Option.some.injEq, Prod.mk.injEq] at h1 h2
    obtain ⟨rfl, rfl, rfl⟩ := h1; subst h2
    exact ⟨(.array .int), by decide, Or.inr (wd K (i := 17) rfl), rfl⟩
  · simp only [own_D, own_ds10, List.getElem?_cons_zero, List.getElem?_cons_succ, Option.some.injEq, Prod.mk.injEq] at h1 h2
    obtain ⟨rfl, rfl, rfl⟩ := h1; subst h2
    exact ⟨(.array .int), by decide, Or.inr (wd K (i := 19) rfl), rfl⟩
  · simp only [own_D, own_ds10, List.getElem?_cons_zero, List.getElem?_cons_succ, Option.some.injEq, Prod.mk.injEq] at h1 h2
    obtain ⟨rfl, rfl, rfl⟩ := h1; subst h2
    exact ⟨(.array .boolean), by decide, Or.inr (wd K (i := 22) rfl), rfl⟩
  · simp only [own_D, own_ds10, List.getElem?_cons_zero, List.getElem?_cons_succ, Option.some.injEq, Prod.mk.injEq] at h1 h2
    obtain ⟨rfl, rfl, rfl⟩ := h1; subst h2
    exact ⟨.int, by decide, Or.inl (wd K (i := 54) rfl), rfl⟩
  · simp [own_D] at h1
section OwnWalk
variable {p : Program} {l : Launch} {e : Env} {s : State} {m : MethodId} {args : Array Value} {below : List Frame} {meth : Method} {c : Code} {Z : State} {a0 : Array Value} {n0 : Nat} {T : State} {A : AH} {cells slots : Nat}
/-! body 1: Bindings.<init>(II)V -/
theorem d1_0 : decode prog_8_method_1_code 0 = .ok (.aload_n 0, 1) := by decide +kernel
theorem d1_1 : decode prog_8_method_1_code 1 = .ok (.invokespecial 1, 3) := by decide +kernel
theorem d1_4 : decode prog_8_method_1_code 4 = .ok (.aload_n 0, 1) := by decide +kernel
theorem d1_5 : decode prog_8_method_1_code 5 = .ok (.bipush 80, 2) := by decide +kernel
theorem d1_7 : decode prog_8_method_1_code 7 = .ok (.newarray .int, 2) := by decide +kernel
theorem d1_9 : decode prog_8_method_1_code 9 = .ok (.putfield 9, 3) := by decide +kernel
theorem d1_12 : decode prog_8_method_1_code 12 = .ok (.aload_n 0, 1) := by decide +kernel
theorem d1_13 : decode prog_8_method_1_code 13 = .ok (.iload_n 2, 1) := by decide +kernel
theorem d1_14 : decode prog_8_method_1_code 14 = .ok (.putfield 13, 3) := by decide +kernel
theorem d1_17 : decode prog_8_method_1_code 17 = .ok (.aload_n 0, 1) := by decide +kernel
theorem d1_18 : decode prog_8_method_1_code 18 = .ok (.iload_n 1, 1) := by decide +kernel
theorem d1_19 : decode prog_8_method_1_code 19 = .ok (.newarray .int, 2) := by decide +kernel
theorem d1_21 : decode prog_8_method_1_code 21 = .ok (.putfield 17, 3) := by decide +kernel
theorem d1_24 : decode prog_8_method_1_code 24 = .ok (.aload_n 0, 1) := by decide +kernel
theorem d1_25 : decode prog_8_method_1_code 25 = .ok (.iload_n 1, 1) := by decide +kernel
theorem d1_26 : decode prog_8_method_1_code 26 = .ok (.newarray .int, 2) := by decide +kernel
theorem d1_28 : decode prog_8_method_1_code 28 = .ok (.putfield 20, 3) := by decide +kernel
theorem d1_31 : decode prog_8_method_1_code 31 = .ok (.aload_n 0, 1) := by decide +kernel
theorem d1_32 : decode prog_8_method_1_code 32 = .ok (.iload_n 1, 1) := by decide +kernel
theorem d1_33 : decode prog_8_method_1_code 33 = .ok (.newarray .int, 2) := by decide +kernel
theorem d1_35 : decode prog_8_method_1_code 35 = .ok (.putfield 23, 3) := by decide +kernel
theorem d1_38 : decode prog_8_method_1_code 38 = .ok (.aload_n 0, 1) := by decide +kernel
theorem d1_39 : decode prog_8_method_1_code 39 = .ok (.iload_n 1, 1) := by decide +kernel
theorem d1_40 : decode prog_8_method_1_code 40 = .ok (.newarray .boolean, 2) := by decide +kernel
theorem d1_42 : decode prog_8_method_1_code 42 = .ok (.putfield 26, 3) := by decide +kernel
theorem d1_45 : decode prog_8_method_1_code 45 = .ok (.iconst 0, 1) := by decide +kernel
theorem d1_46 : decode prog_8_method_1_code 46 = .ok (.istore_n 3, 1) := by decide +kernel
theorem d1_47 : decode prog_8_method_1_code 47 = .ok (.iload_n 3, 1) := by decide +kernel
theorem d1_48 : decode prog_8_method_1_code 48 = .ok (.iload_n 1, 1) := by decide +kernel
theorem d1_49 : decode prog_8_method_1_code 49 = .ok (.if_icmp .ge 30, 3) := by decide +kernel
theorem d1_52 : decode prog_8_method_1_code 52 = .ok (.aload_n 0, 1) := by decide +kernel
theorem d1_53 : decode prog_8_method_1_code 53 = .ok (.getfield 17, 3) := by decide +kernel
theorem d1_56 : decode prog_8_method_1_code 56 = .ok (.iload_n 3, 1) := by decide +kernel
theorem d1_57 : decode prog_8_method_1_code 57 = .ok (.iload_n 3, 1) := by decide +kernel
theorem d1_58 : decode prog_8_method_1_code 58 = .ok (.iastore, 1) := by decide +kernel
theorem d1_59 : decode prog_8_method_1_code 59 = .ok (.aload_n 0, 1) := by decide +kernel
theorem d1_60 : decode prog_8_method_1_code 60 = .ok (.getfield 20, 3) := by decide +kernel
theorem d1_63 : decode prog_8_method_1_code 63 = .ok (.iload_n 3, 1) := by decide +kernel
theorem d1_64 : decode prog_8_method_1_code 64 = .ok (.iconst 1, 1) := by decide +kernel
theorem d1_65 : decode prog_8_method_1_code 65 = .ok (.iastore, 1) := by decide +kernel
theorem d1_66 : decode prog_8_method_1_code 66 = .ok (.aload_n 0, 1) := by decide +kernel
theorem d1_67 : decode prog_8_method_1_code 67 = .ok (.getfield 23, 3) := by decide +kernel
theorem d1_70 : decode prog_8_method_1_code 70 = .ok (.iload_n 3, 1) := by decide +kernel
theorem d1_71 : decode prog_8_method_1_code 71 = .ok (.iconst (-1), 1) := by decide +kernel
theorem d1_72 : decode prog_8_method_1_code 72 = .ok (.iastore, 1) := by decide +kernel
theorem d1_73 : decode prog_8_method_1_code 73 = .ok (.iinc 3 1, 3) := by decide +kernel
theorem d1_76 : decode prog_8_method_1_code 76 = .ok (.goto (-29), 3) := by decide +kernel
theorem d1_79 : decode prog_8_method_1_code 79 = .ok (.return_, 1) := by decide +kernel
theorem pd_1 : parseMethodDescriptor "(II)V" = some ⟨[.int, .int], none⟩ := by decide +kernel
abbrev own_R1 : Room := { frames := 1, cells := 5, slots := 92, locals := 12 }
def f1_71 (rec47 : AH → Nat → Int32 → Int32 → Option (AH)) (A : AH) (o0 : Nat) (i1 : Int32) (i3 : Int32) (s0 : Int32) (r1 : Nat) : Option (AH) :=
  (h_aset A 0 r1 s0 (.int (-1 : Int32))).bind fun A1 =>
  rec47 A1 o0 i1 (i3 + (1 : Int32))
set_option maxRecDepth 65536 in
set_option maxHeartbeats 4000000 in
theorem w1_71 (K : Cx p l e own_R1 s m meth c Z a0 tables_1 "com/example/thabiti/thabiti/core/Bindings" "<init>" prog_8_method_1_code 4 none) (sep : ∀ t, Sep Z (own_D t).2) {rec47 : AH → Nat → Int32 → Int32 → Option (AH)} (H47 : ∀ (T : State) (A : AH) (cells slots : Nat), On p l e own_R1 s m args below meth c own_D Z n0 T A cells slots → ∀ (o0 : Nat) (i1 : Int32) (i2 : Int32) (i3 : Int32) (_u : Unit), cells + 0 ≤ 5 → slots + 0 ≤ 92 → ∀ q, rec47 A o0 i1 i3 = some q → Go p e below (T.setTop (mkF m 47 #[.val (.ref (n0 + o0)), .val (.int i1), .val (.int i2), .val (.int i3)] [])) (Fini own_D Z n0 s own_R1 none q)) (X : On p l e own_R1 s m args below meth c own_D Z n0 T A cells slots) (o0 : Nat) (i1 : Int32) (i2 : Int32) (i3 : Int32) (s0 : Int32) (r1 : Nat) (hc : cells + 0 ≤ 5) (hs : slots + 0 ≤ 92) {q : AH} (hf : f1_71 rec47 A o0 i1 i3 s0 r1 = some q) :
    Go p e below (T.setTop (mkF m 71 #[.val (.ref (n0 + o0)), .val (.int i1), .val (.int i2), .val (.int i3)] [(.int s0), (.ref (n0 + r1))])) (Fini own_D Z n0 s own_R1 none q) := by
  unfold f1_71 at hf
  refine i_iconst (pc' := 72) (v := (-1 : Int32)) K X d1_71 rfl rfl ?_
  obtain ⟨A1, g1, hf⟩ := bs hf
  refine ast0 (pc' := 73) K X g1 d1_72 rfl (fun T1 X1 => ?_)
  refine i_iinc (pc' := 76) (y := (1 : Int32)) (Ls' := #[.val (.ref (n0 + o0)), .val (.int i1), .val (.int i2), .val (.int (i3 + (1 : Int32)))]) K X1 d1_73 rfl rfl rfl rfl ?_
  refine i_goto (pc' := 47) K X1 d1_76 (by decide) (by decide) ?_
  exact H47 _ _ _ _ X1 o0 i1 i2 (i3 + (1 : Int32)) () (show cells + 0 ≤ 5 by omega) (show slots + 0 ≤ 92 by omega) _ hf
def g1_47 (rec47 : AH → Nat → Int32 → Int32 → Option (AH)) (A : AH) (o0 : Nat) (i1 : Int32) (i3 : Int32) : Option (AH) :=
  if i3 < i1 then ((asR (h_fget A 10 o0 2)).bind fun v1 =>
  (h_aset A 0 v1 i3 (.int i3)).bind fun A2 =>
  (asR (h_fget A2 10 o0 3)).bind fun v3 =>
  (h_aset A2 0 v3 i3 (.int (1 : Int32))).bind fun A4 =>
  (asR (h_fget A4 10 o0 4)).bind fun v5 =>
  f1_71 rec47 A4 o0 i1 i3 i3 v5)
  else (some A)
set_option maxRecDepth 65536 in
set_option maxHeartbeats 4000000 in
theorem v1_47 (K : Cx p l e own_R1 s m meth c Z a0 tables_1 "com/example/thabiti/thabiti/core/Bindings" "<init>" prog_8_method_1_code 4 none) (sep : ∀ t, Sep Z (own_D t).2) {rec47 : AH → Nat → Int32 → Int32 → Option (AH)} (H47 : ∀ (T : State) (A : AH) (cells slots : Nat), On p l e own_R1 s m args below meth c own_D Z n0 T A cells slots → ∀ (o0 : Nat) (i1 : Int32) (i2 : Int32) (i3 : Int32) (_u : Unit), cells + 0 ≤ 5 → slots + 0 ≤ 92 → ∀ q, rec47 A o0 i1 i3 = some q → Go p e below (T.setTop (mkF m 47 #[.val (.ref (n0 + o0)), .val (.int i1), .val (.int i2), .val (.int i3)] [])) (Fini own_D Z n0 s own_R1 none q)) (X : On p l e own_R1 s m args below meth c own_D Z n0 T A cells slots) (o0 : Nat) (i1 : Int32) (i2 : Int32) (i3 : Int32) (hc : cells + 0 ≤ 5) (hs : slots + 0 ≤ 92) {q : AH} (hf : g1_47 rec47 A o0 i1 i3 = some q) :
    Go p e below (T.setTop (mkF m 47 #[.val (.ref (n0 + o0)), .val (.int i1), .val (.int i2), .val (.int i3)] [])) (Fini own_D Z n0 s own_R1 none q) := by
  unfold g1_47 at hf
  refine i_iloadN (pc' := 48) K X d1_47 rfl rfl ?_
  refine i_iloadN (pc' := 49) K X d1_48 rfl rfl ?_
  by_cases hc49 : i3 < i1
  · rw [if_pos hc49] at hf
    refine i_icmpNo (pc' := 52) K X d1_49 rfl (tlt hc49).2.1 ?_
    refine i_aloadN (pc' := 53) K X d1_52 rfl rfl rfl ?_
    obtain ⟨v1, g1, hf⟩ := bs hf
    refine getfR (pc' := 56) K X (i := 14) rfl d1_53 (t := 10) (f := 2) (by decide) rfl g1 rfl (fun T1 X1 => ?_)
    refine i_iloadN (pc' := 57) K X1 d1_56 rfl rfl ?_
    refine i_iloadN (pc' := 58) K X1 d1_57 rfl rfl ?_
    obtain ⟨A2, g2, hf⟩ := bs hf
    refine ast0 (pc' := 59) K X1 g2 d1_58 rfl (fun T2 X2 => ?_)
    refine i_aloadN (pc' := 60) K X2 d1_59 rfl rfl rfl ?_
    obtain ⟨v3, g3, hf⟩ := bs hf
    refine getfR (pc' := 63) K X2 (i := 16) rfl d1_60 (t := 10) (f := 3) (by decide) rfl g3 rfl (fun T3 X3 => ?_)
    refine i_iloadN (pc' := 64) K X3 d1_63 rfl rfl ?_
    refine i_iconst (pc' := 65) (v := (1 : Int32)) K X3 d1_64 rfl rfl ?_
    obtain ⟨A4, g4, hf⟩ := bs hf
    refine ast0 (pc' := 66) K X3 g4 d1_65 rfl (fun T4 X4 => ?_)
    refine i_aloadN (pc' := 67) K X4 d1_66 rfl rfl rfl ?_
    obtain ⟨v5, g5, hf⟩ := bs hf
    refine getfR (pc' := 70) K X4 (i := 18) rfl d1_67 (t := 10) (f := 4) (by decide) rfl g5 rfl (fun T5 X5 => ?_)
    refine i_iloadN (pc' := 71) K X5 d1_70 rfl rfl ?_
    exact w1_71 K sep H47 X5 o0 i1 i2 i3 i3 v5 (show cells + 0 ≤ 5 by omega) (show slots + 0 ≤ 92 by omega) hf
  · rw [if_neg hc49] at hf
    refine i_icmpYes (pc' := 79) K X d1_49 (flt hc49).2.1 (by decide) (by decide) ?_
    cases hf
    exact retV K X (show cells ≤ 5 by omega) (show slots ≤ 92 by omega) d1_79
def f1_47 : Nat → AH → Nat → Int32 → Int32 → Option (AH)
  | 0 => fun _ _ _ _ => none
  | k + 1 => g1_47 (f1_47 k)
theorem w1_47 (K : Cx p l e own_R1 s m meth c Z a0 tables_1 "com/example/thabiti/thabiti/core/Bindings" "<init>" prog_8_method_1_code 4 none) (sep : ∀ t, Sep Z (own_D t).2) : ∀ (k : Nat) (T : State) (A : AH) (cells slots : Nat), On p l e own_R1 s m args below meth c own_D Z n0 T A cells slots → ∀ (o0 : Nat) (i1 : Int32) (i2 : Int32) (i3 : Int32) (_u : Unit), cells + 0 ≤ 5 → slots + 0 ≤ 92 → ∀ q, f1_47 k A o0 i1 i3 = some q → Go p e below (T.setTop (mkF m 47 #[.val (.ref (n0 + o0)), .val (.int i1), .val (.int i2), .val (.int i3)] [])) (Fini own_D Z n0 s own_R1 none q) := by
  intro k
  induction k with
  | zero => intro T A cells slots X o0 i1 i2 i3 _ hc hs q hf; exact nomatch hf
  | succ k ih => intro T A cells slots X o0 i1 i2 i3 _ hc hs q hf; exact v1_47 K sep ih X o0 i1 i2 i3 hc hs hf
def f1_28 (A : AH) (o0 : Nat) (i1 : Int32) (r0 : Nat) (r1 : Nat) : Option (AH) :=
  (h_fset A 10 r1 3 (.ref r0)).bind fun A1 =>
  (h_anew A1 0 3 i1 (.int 0)).bind fun q2 =>
  (h_fset q2.2 10 o0 4 (.ref q2.1)).bind fun A3 =>
  (h_anew A3 4 3 i1 (.int 0)).bind fun q4 =>
  (h_fset q4.2 10 o0 5 (.ref q4.1)).bind fun A5 =>
  f1_47 8 A5 o0 i1 (0 : Int32)
set_option maxRecDepth 65536 in
set_option maxHeartbeats 4000000 in
theorem w1_28 (K : Cx p l e own_R1 s m meth c Z a0 tables_1 "com/example/thabiti/thabiti/core/Bindings" "<init>" prog_8_method_1_code 4 none) (sep : ∀ t, Sep Z (own_D t).2) (X : On p l e own_R1 s m args below meth c own_D Z n0 T A cells slots) (o0 : Nat) (i1 : Int32) (i2 : Int32) (r0 : Nat) (r1 : Nat) (hc : cells + 2 ≤ 5) (hs : slots + 6 ≤ 92) {q : AH} (hf : f1_28 A o0 i1 r0 r1 = some q) :
    Go p e below (T.setTop (mkF m 28 #[.val (.ref (n0 + o0)), .val (.int i1), .val (.int i2), .unset] [(.ref (n0 + r0)), (.ref (n0 + r1))])) (Fini own_D Z n0 s own_R1 none q) := by
  unfold f1_28 at hf
  obtain ⟨A1, g1, hf⟩ := bs hf
  refine putf (pc' := 31) (va := (.ref r0)) K sep X (i := 16) rfl d1_28 (t := 10) (f := 3) (by decide) rfl (Or.inr ⟨wd K (i := 17) rfl, rfl, rfl⟩) (i2 := 1) rfl (ty := (.array .int)) (by decide) rfl rfl g1 rfl (fun T1 X1 => ?_)
  refine i_aloadN (pc' := 32) K X1 d1_31 rfl rfl rfl ?_
  refine i_iloadN (pc' := 33) K X1 d1_32 rfl rfl ?_
  obtain ⟨q2, g2, hf⟩ := bs hf
  refine newa (pc' := 35) K X1 (i1 := 9) (at' := .int) rfl d1_33 (t := 0) (cap := 3) (by decide) (show cells + 1 ≤ 5 by omega) (show slots + 3 ≤ 92 by omega) (by decide) rfl rfl g2 rfl (fun T2 X2 => ?_)
  obtain ⟨A3, g3, hf⟩ := bs hf
  refine putf (pc' := 38) (va := (.ref q2.1)) K sep X2 (i := 18) rfl d1_35 (t := 10) (f := 4) (by decide) rfl (Or.inr ⟨wd K (i := 19) rfl, rfl, rfl⟩) (i2 := 1) rfl (ty := (.array .int)) (by decide) rfl rfl g3 rfl (fun T3 X3 => ?_)
  refine i_aloadN (pc' := 39) K X3 d1_38 rfl rfl rfl ?_
  refine i_iloadN (pc' := 40) K X3 d1_39 rfl rfl ?_
  obtain ⟨q4, g4, hf⟩ := bs hf
  refine newa (pc' := 42) K X3 (i1 := 20) (at' := .boolean) rfl d1_40 (t := 4) (cap := 3) (by decide) (show cells + 1 + 1 ≤ 5 by omega) (show slots + 3 + 3 ≤ 92 by omega) (by decide) rfl rfl g4 rfl (fun T4 X4 => ?_)
  obtain ⟨A5, g5, hf⟩ := bs hf
  refine putf (pc' := 45) (va := (.ref q4.1)) K sep X4 (i := 21) rfl d1_42 (t := 10) (f := 5) (by decide) rfl (Or.inr ⟨wd K (i := 22) rfl, rfl, rfl⟩) (i2 := 1) rfl (ty := (.array .boolean)) (by decide) rfl rfl g5 rfl (fun T5 X5 => ?_)
  refine i_iconst (pc' := 46) (v := (0 : Int32)) K X5 d1_45 rfl rfl ?_
  refine i_istoreN (pc' := 47) (Ls' := #[.val (.ref (n0 + o0)), .val (.int i1), .val (.int i2), .val (.int (0 : Int32))]) K X5 d1_46 rfl rfl ?_
  exact w1_47 K sep 8 _ _ _ _ X5 o0 i1 i2 (0 : Int32) () (show cells + 2 + 0 ≤ 5 by omega) (show slots + 6 + 0 ≤ 92 by omega) _ hf
def f1_0 (A : AH) (o0 : Nat) (i1 : Int32) (i2 : Int32) : Option (AH) :=
  (h_anew A 0 80 (80 : Int32) (.int 0)).bind fun q2 =>
  (h_fset q2.2 10 o0 0 (.ref q2.1)).bind fun A3 =>
  (h_fset A3 10 o0 1 (.int i2)).bind fun A4 =>
  (h_anew A4 0 3 i1 (.int 0)).bind fun q5 =>
  (h_fset q5.2 10 o0 2 (.ref q5.1)).bind fun A6 =>
  (h_anew A6 0 3 i1 (.int 0)).bind fun q7 =>
  f1_28 q7.2 o0 i1 q7.1 o0
set_option maxRecDepth 65536 in
set_option maxHeartbeats 4000000 in
theorem w1_0 (K : Cx p l e own_R1 s m meth c Z a0 tables_1 "com/example/thabiti/thabiti/core/Bindings" "<init>" prog_8_method_1_code 4 none) (sep : ∀ t, Sep Z (own_D t).2) (X : On p l e own_R1 s m args below meth c own_D Z n0 T A cells slots) (o0 : Nat) (i1 : Int32) (i2 : Int32) (hc : cells + 5 ≤ 5) (hs : slots + 92 ≤ 92) {q : AH} (hf : f1_0 A o0 i1 i2 = some q) :
    Go p e below (T.setTop (mkF m 0 #[.val (.ref (n0 + o0)), .val (.int i1), .val (.int i2), .unset] [])) (Fini own_D Z n0 s own_R1 none q) := by
  unfold f1_0 at hf
  refine i_aloadN (pc' := 1) K X d1_0 rfl rfl rfl ?_
  refine obj (pc' := 4) K X (i1 := 6) rfl (i2 := 7) rfl (i3 := 8) rfl d1_1 rfl (by decide) (w := 0) (Nat.le_of_eq rfl) (by decide) rfl (fun T1 X1 => ?_)
  refine i_aloadN (pc' := 5) K X1 d1_4 rfl rfl rfl ?_
  refine i_bipush (pc' := 7) (v := (80 : Int32)) K X1 d1_5 rfl rfl ?_
  obtain ⟨q2, g2, hf⟩ := bs hf
  refine newa (pc' := 9) K X1 (i1 := 9) (at' := .int) rfl d1_7 (t := 0) (cap := 80) (by decide) (show cells + 1 ≤ 5 by omega) (show slots + 80 ≤ 92 by omega) (by decide) rfl rfl g2 rfl (fun T2 X2 => ?_)
  obtain ⟨A3, g3, hf⟩ := bs hf
  refine putf (pc' := 12) (va := (.ref q2.1)) K sep X2 (i := 10) rfl d1_9 (t := 10) (f := 0) (by decide) rfl (Or.inl (wd K (i := 11) rfl)) (i2 := 1) rfl (ty := (.array .int)) (by decide) rfl rfl g3 rfl (fun T3 X3 => ?_)
  refine i_aloadN (pc' := 13) K X3 d1_12 rfl rfl rfl ?_
  refine i_iloadN (pc' := 14) K X3 d1_13 rfl rfl ?_
  obtain ⟨A4, g4, hf⟩ := bs hf
  refine putf (pc' := 17) (va := (.int i2)) K sep X3 (i := 12) rfl d1_14 (t := 10) (f := 1) (by decide) rfl (Or.inr ⟨wd K (i := 13) rfl, rfl, rfl⟩) (i2 := 1) rfl (ty := .int) (by decide) rfl rfl g4 rfl (fun T4 X4 => ?_)
  refine i_aloadN (pc' := 18) K X4 d1_17 rfl rfl rfl ?_
  refine i_iloadN (pc' := 19) K X4 d1_18 rfl rfl ?_
  obtain ⟨q5, g5, hf⟩ := bs hf
  refine newa (pc' := 21) K X4 (i1 := 9) (at' := .int) rfl d1_19 (t := 0) (cap := 3) (by decide) (show cells + 1 + 1 ≤ 5 by omega) (show slots + 80 + 3 ≤ 92 by omega) (by decide) rfl rfl g5 rfl (fun T5 X5 => ?_)
  obtain ⟨A6, g6, hf⟩ := bs hf
  refine putf (pc' := 24) (va := (.ref q5.1)) K sep X5 (i := 14) rfl d1_21 (t := 10) (f := 2) (by decide) rfl (Or.inr ⟨wd K (i := 15) rfl, rfl, rfl⟩) (i2 := 1) rfl (ty := (.array .int)) (by decide) rfl rfl g6 rfl (fun T6 X6 => ?_)
  refine i_aloadN (pc' := 25) K X6 d1_24 rfl rfl rfl ?_
  refine i_iloadN (pc' := 26) K X6 d1_25 rfl rfl ?_
  obtain ⟨q7, g7, hf⟩ := bs hf
  refine newa (pc' := 28) K X6 (i1 := 9) (at' := .int) rfl d1_26 (t := 0) (cap := 3) (by decide) (show cells + 2 + 1 ≤ 5 by omega) (show slots + 83 + 3 ≤ 92 by omega) (by decide) rfl rfl g7 rfl (fun T7 X7 => ?_)
  exact w1_28 K sep X7 o0 i1 i2 q7.1 o0 (show cells + 3 + 2 ≤ 5 by omega) (show slots + 86 + 6 ≤ 92 by omega) hf
theorem pn_1 : plainName "com/example/thabiti/thabiti/core/Bindings" = true := by first | (simp [plainName, overriddenIn]; done) | decide +kernel
theorem rm1 {l : Launch} {Z : State} {a0 : Array Value} {n0 : Nat} (hw : ∀ d ∈ tables_1, d.before a0 Z = true) (A : AH) (o0 : Nat) (i1 : Int32) (i2 : Int32) {q : AH} (hf : f1_0 A o0 i1 i2 = some q) :
    Met l own_D Z n0 (⟨"com/example/thabiti/thabiti/core/Bindings", "<init>", "(II)V"⟩ : MethodName) prog_8_method_1_code 4 none own_R1 [(.ref (n0 + o0)), (.int i1), (.int i2)] A none q :=
  met (W := tables_1) (a0 := a0) (own := "com/example/thabiti/thabiti/core/Bindings") (nm := "<init>") (L0 := #[.val (.ref (n0 + o0)), .val (.int i1), .val (.int i2), .unset]) (plainFor_of_name pn_1) hw rfl rfl (fun m => by first | (simp [entryFrame, mkF, argsToLocals, Value.category]; done) | rfl) (fun p e s m below meth c T K X => w1_0 K (own_sep hw) X o0 i1 i2 (show 0 + 5 ≤ 5 by decide) (show 0 + 92 ≤ 92 by decide) hf)
/-! body 3: BindingsUndoPinLaw.code(I)I -/
theorem d3_0 : decode method_3_code 0 = .ok (.iload_n 0, 1) := by decide +kernel
theorem d3_1 : decode method_3_code 1 = .ok (.bipush 7, 2) := by decide +kernel
theorem d3_3 : decode method_3_code 3 = .ok (.iand, 1) := by decide +kernel
theorem d3_4 : decode method_3_code 4 = .ok (.bipush 6, 2) := by decide +kernel
theorem d3_6 : decode method_3_code 6 = .ok (.irem, 1) := by decide +kernel
theorem d3_7 : decode method_3_code 7 = .ok (.iconst 3, 1) := by decide +kernel
theorem d3_8 : decode method_3_code 8 = .ok (.isub, 1) := by decide +kernel
theorem d3_9 : decode method_3_code 9 = .ok (.ireturn, 1) := by decide +kernel
theorem pd_3 : parseMethodDescriptor "(I)I" = some ⟨[.int], some .int⟩ := by decide +kernel
abbrev own_R3 : Room := { frames := 0, cells := 0, slots := 0, locals := 0 }
def f3_9 (s0 : Int32) : Int32 :=
  s0
set_option maxRecDepth 65536 in
set_option maxHeartbeats 4000000 in
theorem w3_9 (K : Cx p l e own_R3 s m meth c Z a0 tables_1 "com/example/thabiti/thabiti/core/BindingsUndoPinLaw" "code" method_3_code 1 (some .int)) (X : On p l e own_R3 s m args below meth c own_D Z n0 T A cells slots) (i0 : Int32) (s0 : Int32) (hc : cells + 0 ≤ 0) (hs : slots + 0 ≤ 0) :
    Go p e below (T.setTop (mkF m 9 #[.val (.int i0)] [(.int s0)])) (Fini own_D Z n0 s own_R3 (some (.int (f3_9 s0))) A) := by
  unfold f3_9
  exact retI K X (show cells ≤ 0 by omega) (show slots ≤ 0 by omega) d3_9
def f3_0 (i0 : Int32) : Int32 :=
  f3_9 (((i0 &&& (7 : Int32)) % (6 : Int32)) - (3 : Int32))
set_option maxRecDepth 65536 in
set_option maxHeartbeats 4000000 in
theorem w3_0 (K : Cx p l e own_R3 s m meth c Z a0 tables_1 "com/example/thabiti/thabiti/core/BindingsUndoPinLaw" "code" method_3_code 1 (some .int)) (X : On p l e own_R3 s m args below meth c own_D Z n0 T A cells slots) (i0 : Int32) (hc : cells + 0 ≤ 0) (hs : slots + 0 ≤ 0) :
    Go p e below (T.setTop (mkF m 0 #[.val (.int i0)] [])) (Fini own_D Z n0 s own_R3 (some (.int (f3_0 i0))) A) := by
  unfold f3_0
  refine i_iloadN (pc' := 1) K X d3_0 rfl rfl ?_
  refine i_bipush (pc' := 3) (v := (7 : Int32)) K X d3_1 rfl rfl ?_
  refine i_iand (pc' := 4) K X d3_3 rfl ?_
  refine i_bipush (pc' := 6) (v := (6 : Int32)) K X d3_4 rfl rfl ?_
  refine i_irem (pc' := 7) K X d3_6 rfl (by decide) ?_
  refine i_iconst (pc' := 8) (v := (3 : Int32)) K X d3_7 rfl rfl ?_
  refine i_isub (pc' := 9) K X d3_8 rfl ?_
  exact w3_9 K X i0 (((i0 &&& (7 : Int32)) % (6 : Int32)) - (3 : Int32)) (show cells + 0 ≤ 0 by omega) (show slots + 0 ≤ 0 by omega)
theorem pn_3 : plainName "com/example/thabiti/thabiti/core/BindingsUndoPinLaw" = true := by first | (simp [plainName, overriddenIn]; done) | decide +kernel
theorem rm3 {l : Launch} {Z : State} {a0 : Array Value} {n0 : Nat} (hw : ∀ d ∈ tables_1, d.before a0 Z = true) (A : AH) (i0 : Int32) :
    Met l own_D Z n0 (⟨"com/example/thabiti/thabiti/core/BindingsUndoPinLaw", "code", "(I)I"⟩ : MethodName) method_3_code 1 (some .int) own_R3 [(.int i0)] A (some (.int (f3_0 i0))) A :=
  met (W := tables_1) (a0 := a0) (own := "com/example/thabiti/thabiti/core/BindingsUndoPinLaw") (nm := "code") (L0 := #[.val (.int i0)]) (plainFor_of_name pn_3) hw rfl rfl (fun m => by first | (simp [entryFrame, mkF, argsToLocals, Value.category]; done) | rfl) (fun p e s m below meth c T K X => w3_0 K X i0 (show 0 + 0 ≤ 0 by decide) (show 0 + 0 ≤ 0 by decide))
/-! body 11: Bindings.find(I)I -/
theorem d11_0 : decode prog_8_method_12_code 0 = .ok (.iload_n 1, 1) := by decide +kernel
theorem d11_1 : decode prog_8_method_12_code 1 = .ok (.istore_n 2, 1) := by decide +kernel
theorem d11_2 : decode prog_8_method_12_code 2 = .ok (.aload_n 0, 1) := by decide +kernel
theorem d11_3 : decode prog_8_method_12_code 3 = .ok (.getfield 17, 3) := by decide +kernel
theorem d11_6 : decode prog_8_method_12_code 6 = .ok (.iload_n 2, 1) := by decide +kernel
theorem d11_7 : decode prog_8_method_12_code 7 = .ok (.iaload, 1) := by decide +kernel
theorem d11_8 : decode prog_8_method_12_code 8 = .ok (.iload_n 2, 1) := by decide +kernel
theorem d11_9 : decode prog_8_method_12_code 9 = .ok (.if_icmp .eq 13, 3) := by decide +kernel
theorem d11_12 : decode prog_8_method_12_code 12 = .ok (.aload_n 0, 1) := by decide +kernel
theorem d11_13 : decode prog_8_method_12_code 13 = .ok (.getfield 17, 3) := by decide +kernel
theorem d11_16 : decode prog_8_method_12_code 16 = .ok (.iload_n 2, 1) := by decide +kernel
theorem d11_17 : decode prog_8_method_12_code 17 = .ok (.iaload, 1) := by decide +kernel
theorem d11_18 : decode prog_8_method_12_code 18 = .ok (.istore_n 2, 1) := by decide +kernel
theorem d11_19 : decode prog_8_method_12_code 19 = .ok (.goto (-17), 3) := by decide +kernel
theorem d11_22 : decode prog_8_method_12_code 22 = .ok (.iload_n 2, 1) := by decide +kernel
theorem d11_23 : decode prog_8_method_12_code 23 = .ok (.ireturn, 1) := by decide +kernel
theorem pd_11 : parseMethodDescriptor "(I)I" = some ⟨[.int], some .int⟩ := by decide +kernel
abbrev own_R11 : Room := { frames := 0, cells := 0, slots := 0, locals := 0 }
def g11_2 (rec2 : AH → Nat → Int32 → Option (Int32 × AH)) (A : AH) (o0 : Nat) (i2 : Int32) : Option (Int32 × AH) :=
  (asR (h_fget A 10 o0 2)).bind fun v1 =>
  (asI (h_aget A 0 v1 i2)).bind fun v2 =>
  if v2 = i2 then (some (i2, A))
  else ((asR (h_fget A 10 o0 2)).bind fun v3 =>
  (asI (h_aget A 0 v3 i2)).bind fun v4 =>
  rec2 A o0 v4)
set_option maxRecDepth 65536 in
set_option maxHeartbeats 4000000 in
theorem v11_2 (K : Cx p l e own_R11 s m meth c Z a0 tables_1 "com/example/thabiti/thabiti/core/Bindings" "find" prog_8_method_12_code 3 (some .int)) (sep : ∀ t, Sep Z (own_D t).2) {rec2 : AH → Nat → Int32 → Option (Int32 × AH)} (H2 : ∀ (T : State) (A : AH) (cells slots : Nat), On p l e own_R11 s m args below meth c own_D Z n0 T A cells slots → ∀ (o0 : Nat) (i1 : Int32) (i2 : Int32) (_u : Unit), cells + 0 ≤ 0 → slots + 0 ≤ 0 → ∀ q, rec2 A o0 i2 = some q → Go p e below (T.setTop (mkF m 2 #[.val (.ref (n0 + o0)), .val (.int i1), .val (.int i2)] [])) (Fini own_D Z n0 s own_R11 (some (.int q.1)) q.2)) (X : On p l e own_R11 s m args below meth c own_D Z n0 T A cells slots) (o0 : Nat) (i1 : Int32) (i2 : Int32) (hc : cells + 0 ≤ 0) (hs : slots + 0 ≤ 0) {q : Int32 × AH} (hf : g11_2 rec2 A o0 i2 = some q) :
    Go p e below (T.setTop (mkF m 2 #[.val (.ref (n0 + o0)), .val (.int i1), .val (.int i2)] [])) (Fini own_D Z n0 s own_R11 (some (.int q.1)) q.2) := by
  unfold g11_2 at hf
  refine i_aloadN (pc' := 3) K X d11_2 rfl rfl rfl ?_
  obtain ⟨v1, g1, hf⟩ := bs hf
  refine getfR (pc' := 6) K X (i := 14) rfl d11_3 (t := 10) (f := 2) (by decide) rfl g1 rfl (fun T1 X1 => ?_)
  refine i_iloadN (pc' := 7) K X1 d11_6 rfl rfl ?_
  obtain ⟨v2, g2, hf⟩ := bs hf
  refine ld0 (pc' := 8) K X1 g2 d11_7 rfl ?_
  refine i_iloadN (pc' := 9) K X1 d11_8 rfl rfl ?_
  by_cases hc9 : v2 = i2
  · rw [if_pos hc9] at hf
    refine i_icmpYes (pc' := 22) K X1 d11_9 (teq hc9).1 (by decide) (by decide) ?_
    refine i_iloadN (pc' := 23) K X1 d11_22 rfl rfl ?_
    cases hf
    exact retI K X1 (show cells ≤ 0 by omega) (show slots ≤ 0 by omega) d11_23
  · rw [if_neg hc9] at hf
    refine i_icmpNo (pc' := 12) K X1 d11_9 rfl (feq hc9).1 ?_
    refine i_aloadN (pc' := 13) K X1 d11_12 rfl rfl rfl ?_
    obtain ⟨v3, g3, hf⟩ := bs hf
    refine getfR (pc' := 16) K X1 (i := 14) rfl d11_13 (t := 10) (f := 2) (by decide) rfl g3 rfl (fun T3 X3 => ?_)
    refine i_iloadN (pc' := 17) K X3 d11_16 rfl rfl ?_
    obtain ⟨v4, g4, hf⟩ := bs hf
    refine ld0 (pc' := 18) K X3 g4 d11_17 rfl ?_
    refine i_istoreN (pc' := 19) (Ls' := #[.val (.ref (n0 + o0)), .val (.int i1), .val (.int v4)]) K X3 d11_18 rfl rfl ?_
    refine i_goto (pc' := 2) K X3 d11_19 (by decide) (by decide) ?_
    exact H2 _ _ _ _ X3 o0 i1 v4 () (show cells + 0 ≤ 0 by omega) (show slots + 0 ≤ 0 by omega) _ hf
def f11_2 : Nat → AH → Nat → Int32 → Option (Int32 × AH)
  | 0 => fun _ _ _ => none
  | k + 1 => g11_2 (f11_2 k)
theorem w11_2 (K : Cx p l e own_R11 s m meth c Z a0 tables_1 "com/example/thabiti/thabiti/core/Bindings" "find" prog_8_method_12_code 3 (some .int)) (sep : ∀ t, Sep Z (own_D t).2) : ∀ (k : Nat) (T : State) (A : AH) (cells slots : Nat), On p l e own_R11 s m args below meth c own_D Z n0 T A cells slots → ∀ (o0 : Nat) (i1 : Int32) (i2 : Int32) (_u : Unit), cells + 0 ≤ 0 → slots + 0 ≤ 0 → ∀ q, f11_2 k A o0 i2 = some q → Go p e below (T.setTop (mkF m 2 #[.val (.ref (n0 + o0)), .val (.int i1), .val (.int i2)] [])) (Fini own_D Z n0 s own_R11 (some (.int q.1)) q.2) := by
  intro k
  induction k with
  | zero => intro T A cells slots X o0 i1 i2 _ hc hs q hf; exact nomatch hf
  | succ k ih => intro T A cells slots X o0 i1 i2 _ hc hs q hf; exact v11_2 K sep ih X o0 i1 i2 hc hs hf
def f11_0 (A : AH) (o0 : Nat) (i1 : Int32) : Option (Int32 × AH) :=
  f11_2 8 A o0 i1
set_option maxRecDepth 65536 in
set_option maxHeartbeats 4000000 in
theorem w11_0 (K : Cx p l e own_R11 s m meth c Z a0 tables_1 "com/example/thabiti/thabiti/core/Bindings" "find" prog_8_method_12_code 3 (some .int)) (sep : ∀ t, Sep Z (own_D t).2) (X : On p l e own_R11 s m args below meth c own_D Z n0 T A cells slots) (o0 : Nat) (i1 : Int32) (hc : cells + 0 ≤ 0) (hs : slots + 0 ≤ 0) {q : Int32 × AH} (hf : f11_0 A o0 i1 = some q) :
    Go p e below (T.setTop (mkF m 0 #[.val (.ref (n0 + o0)), .val (.int i1), .unset] [])) (Fini own_D Z n0 s own_R11 (some (.int q.1)) q.2) := by
  unfold f11_0 at hf
  refine i_iloadN (pc' := 1) K X d11_0 rfl rfl ?_
  refine i_istoreN (pc' := 2) (Ls' := #[.val (.ref (n0 + o0)), .val (.int i1), .val (.int i1)]) K X d11_1 rfl rfl ?_
  exact w11_2 K sep 8 _ _ _ _ X o0 i1 i1 () (show cells + 0 ≤ 0 by omega) (show slots + 0 ≤ 0 by omega) _ hf
theorem pn_11 : plainName "com/example/thabiti/thabiti/core/Bindings" = true := by first | (simp [plainName, overriddenIn]; done) | decide +kernel
theorem rm11 {l : Launch} {Z : State} {a0 : Array Value} {n0 : Nat} (hw : ∀ d ∈ tables_1, d.before a0 Z = true) (A : AH) (o0 : Nat) (i1 : Int32) {q : Int32 × AH} (hf : f11_0 A o0 i1 = some q) :
    Met l own_D Z n0 (⟨"com/example/thabiti/thabiti/core/Bindings", "find", "(I)I"⟩ : MethodName) prog_8_method_12_code 3 (some .int) own_R11 [(.ref (n0 + o0)), (.int i1)] A (some (.int q.1)) q.2 :=
  met (W := tables_1) (a0 := a0) (own := "com/example/thabiti/thabiti/core/Bindings") (nm := "find") (L0 := #[.val (.ref (n0 + o0)), .val (.int i1), .unset]) (plainFor_of_name pn_11) hw rfl rfl (fun m => by first | (simp [entryFrame, mkF, argsToLocals, Value.category]; done) | rfl) (fun p e s m below meth c T K X => w11_0 K (own_sep hw) X o0 i1 (show 0 + 0 ≤ 0 by decide) (show 0 + 0 ≤ 0 by decide) hf)
/-! body 6: Bindings.valueCode(I)I -/
theorem d6_0 : decode prog_8_method_2_code 0 = .ok (.iconst (-1), 1) := by decide +kernel
theorem d6_1 : decode prog_8_method_2_code 1 = .ok (.iload_n 0, 1) := by decide +kernel
theorem d6_2 : decode prog_8_method_2_code 2 = .ok (.isub, 1) := by decide +kernel
theorem d6_3 : decode prog_8_method_2_code 3 = .ok (.ireturn, 1) := by decide +kernel
theorem pd_6 : parseMethodDescriptor "(I)I" = some ⟨[.int], some .int⟩ := by decide +kernel
abbrev own_R6 : Room := { frames := 0, cells := 0, slots := 0, locals := 0 }
def f6_0 (i0 : Int32) : Int32 :=
  ((-1 : Int32) - i0)
set_option maxRecDepth 65536 in
set_option maxHeartbeats 4000000 in
theorem w6_0 (K : Cx p l e own_R6 s m meth c Z a0 tables_1 "com/example/thabiti/thabiti/core/Bindings" "valueCode" prog_8_method_2_code 1 (some .int)) (X : On p l e own_R6 s m args below meth c own_D Z n0 T A cells slots) (i0 : Int32) (hc : cells + 0 ≤ 0) (hs : slots + 0 ≤ 0) :
    Go p e below (T.setTop (mkF m 0 #[.val (.int i0)] [])) (Fini own_D Z n0 s own_R6 (some (.int (f6_0 i0))) A) := by
  unfold f6_0
  refine i_iconst (pc' := 1) (v := (-1 : Int32)) K X d6_0 rfl rfl ?_
  refine i_iloadN (pc' := 2) K X d6_1 rfl rfl ?_
  refine i_isub (pc' := 3) K X d6_2 rfl ?_
  exact retI K X (show cells ≤ 0 by omega) (show slots ≤ 0 by omega) d6_3
theorem pn_6 : plainName "com/example/thabiti/thabiti/core/Bindings" = true := by first | (simp [plainName, overriddenIn]; done) | decide +kernel
theorem rm6 {l : Launch} {Z : State} {a0 : Array Value} {n0 : Nat} (hw : ∀ d ∈ tables_1, d.before a0 Z = true) (A : AH) (i0 : Int32) :
    Met l own_D Z n0 (⟨"com/example/thabiti/thabiti/core/Bindings", "valueCode", "(I)I"⟩ : MethodName) prog_8_method_2_code 1 (some .int) own_R6 [(.int i0)] A (some (.int (f6_0 i0))) A :=
  met (W := tables_1) (a0 := a0) (own := "com/example/thabiti/thabiti/core/Bindings") (nm := "valueCode") (L0 := #[.val (.int i0)]) (plainFor_of_name pn_6) hw rfl rfl (fun m => by first | (simp [entryFrame, mkF, argsToLocals, Value.category]; done) | rfl) (fun p e s m below meth c T K X => w6_0 K X i0 (show 0 + 0 ≤ 0 by decide) (show 0 + 0 ≤ 0 by decide))
/-! body 5: Bindings.resolve(I)I -/
theorem d5_0 : decode prog_8_method_6_code 0 = .ok (.iload_n 1, 1) := by decide +kernel
theorem d5_1 : decode prog_8_method_6_code 1 = .ok (.istore_n 2, 1) := by decide +kernel
theorem d5_2 : decode prog_8_method_6_code 2 = .ok (.iload_n 1, 1) := by decide +kernel
theorem d5_3 : decode prog_8_method_6_code 3 = .ok (.ifCond .lt 33, 3) := by decide +kernel
theorem d5_6 : decode prog_8_method_6_code 6 = .ok (.aload_n 0, 1) := by decide +kernel
theorem d5_7 : decode prog_8_method_6_code 7 = .ok (.iload_n 1, 1) := by decide +kernel
theorem d5_8 : decode prog_8_method_6_code 8 = .ok (.invokevirtual 33, 3) := by decide +kernel
theorem d5_11 : decode prog_8_method_6_code 11 = .ok (.istore_n 3, 1) := by decide +kernel
theorem d5_12 : decode prog_8_method_6_code 12 = .ok (.aload_n 0, 1) := by decide +kernel
theorem d5_13 : decode prog_8_method_6_code 13 = .ok (.getfield 23, 3) := by decide +kernel
theorem d5_16 : decode prog_8_method_6_code 16 = .ok (.iload_n 3, 1) := by decide +kernel
theorem d5_17 : decode prog_8_method_6_code 17 = .ok (.iaload, 1) := by decide +kernel
theorem d5_18 : decode prog_8_method_6_code 18 = .ok (.iconst (-1), 1) := by decide +kernel
theorem d5_19 : decode prog_8_method_6_code 19 = .ok (.if_icmp .ne 7, 3) := by decide +kernel
theorem d5_22 : decode prog_8_method_6_code 22 = .ok (.iload_n 3, 1) := by decide +kernel
theorem d5_23 : decode prog_8_method_6_code 23 = .ok (.goto 12, 3) := by decide +kernel
theorem d5_26 : decode prog_8_method_6_code 26 = .ok (.aload_n 0, 1) := by decide +kernel
theorem d5_27 : decode prog_8_method_6_code 27 = .ok (.getfield 23, 3) := by decide +kernel
theorem d5_30 : decode prog_8_method_6_code 30 = .ok (.iload_n 3, 1) := by decide +kernel
theorem d5_31 : decode prog_8_method_6_code 31 = .ok (.iaload, 1) := by decide +kernel
theorem d5_32 : decode prog_8_method_6_code 32 = .ok (.invokestatic 37, 3) := by decide +kernel
theorem d5_35 : decode prog_8_method_6_code 35 = .ok (.istore_n 2, 1) := by decide +kernel
theorem d5_36 : decode prog_8_method_6_code 36 = .ok (.iload_n 2, 1) := by decide +kernel
theorem d5_37 : decode prog_8_method_6_code 37 = .ok (.ireturn, 1) := by decide +kernel
theorem pd_5 : parseMethodDescriptor "(I)I" = some ⟨[.int], some .int⟩ := by decide +kernel
abbrev own_R5 : Room := { frames := 1, cells := 0, slots := 0, locals := 14 }
def f5_36 (A : AH) (i2 : Int32) : Option (Int32 × AH) :=
  some (i2, A)
set_option maxRecDepth 65536 in
set_option maxHeartbeats 4000000 in
theorem w5_36 (K : Cx p l e own_R5 s m meth c Z a0 tables_1 "com/example/thabiti/thabiti/core/Bindings" "resolve" prog_8_method_6_code 4 (some .int)) (sep : ∀ t, Sep Z (own_D t).2) (X : On p l e own_R5 s m args below meth c own_D Z n0 T A cells slots) (o0 : Nat) (i1 : Int32) (i2 : Int32) (x3 : Slot) (hx3 : One x3) (hc : cells + 0 ≤ 0) (hs : slots + 0 ≤ 0) {q : Int32 × AH} (hf : f5_36 A i2 = some q) :
    Go p e below (T.setTop (mkF m 36 #[.val (.ref (n0 + o0)), .val (.int i1), .val (.int i2), x3] [])) (Fini own_D Z n0 s own_R5 (some (.int q.1)) q.2) := by
  unfold f5_36 at hf
  refine i_iloadN (pc' := 37) K X d5_36 rfl rfl ?_
  cases hf
  exact retI K X (show cells ≤ 0 by omega) (show slots ≤ 0 by omega) d5_37
def f5_35 (A : AH) (s0 : Int32) : Option (Int32 × AH) :=
  f5_36 A s0
set_option maxRecDepth 65536 in
set_option maxHeartbeats 4000000 in
theorem w5_35 (K : Cx p l e own_R5 s m meth c Z a0 tables_1 "com/example/thabiti/thabiti/core/Bindings" "resolve" prog_8_method_6_code 4 (some .int)) (sep : ∀ t, Sep Z (own_D t).2) (X : On p l e own_R5 s m args below meth c own_D Z n0 T A cells slots) (o0 : Nat) (i1 : Int32) (i2 : Int32) (i3 : Int32) (s0 : Int32) (hc : cells + 0 ≤ 0) (hs : slots + 0 ≤ 0) {q : Int32 × AH} (hf : f5_35 A s0 = some q) :
    Go p e below (T.setTop (mkF m 35 #[.val (.ref (n0 + o0)), .val (.int i1), .val (.int i2), .val (.int i3)] [(.int s0)])) (Fini own_D Z n0 s own_R5 (some (.int q.1)) q.2) := by
  unfold f5_35 at hf
  refine i_istoreN (pc' := 36) (Ls' := #[.val (.ref (n0 + o0)), .val (.int i1), .val (.int s0), .val (.int i3)]) K X d5_35 rfl rfl ?_
  exact w5_36 K sep X o0 i1 s0 (.val (.int i3)) (One.val rfl) (show cells + 0 ≤ 0 by omega) (show slots + 0 ≤ 0 by omega) hf
def f5_30 (A : AH) (i3 : Int32) (r0 : Nat) : Option (Int32 × AH) :=
  (asI (h_aget A 0 r0 i3)).bind fun v1 =>
  f5_35 A (f6_0 v1)
set_option maxRecDepth 65536 in
set_option maxHeartbeats 4000000 in
theorem w5_30 (K : Cx p l e own_R5 s m meth c Z a0 tables_1 "com/example/thabiti/thabiti/core/Bindings" "resolve" prog_8_method_6_code 4 (some .int)) (sep : ∀ t, Sep Z (own_D t).2) (X : On p l e own_R5 s m args below meth c own_D Z n0 T A cells slots) (o0 : Nat) (i1 : Int32) (i2 : Int32) (i3 : Int32) (r0 : Nat) (hc : cells + 0 ≤ 0) (hs : slots + 0 ≤ 0) {q : Int32 × AH} (hf : f5_30 A i3 r0 = some q) :
    Go p e below (T.setTop (mkF m 30 #[.val (.ref (n0 + o0)), .val (.int i1), .val (.int i2), .val (.int i3)] [(.ref (n0 + r0))])) (Fini own_D Z n0 s own_R5 (some (.int q.1)) q.2) := by
  unfold f5_30 at hf
  refine i_iloadN (pc' := 31) K X d5_30 rfl rfl ?_
  obtain ⟨v1, g1, hf⟩ := bs hf
  refine ld0 (pc' := 32) K X g1 d5_31 rfl ?_
  refine calls (pc' := 35) (kc := cells) (ks := slots) (S' := [(.int (f6_0 v1))]) (st := []) K X (i1 := 40) rfl (i2 := 41) rfl (i3 := 2) rfl (i4 := 42) rfl (by decide) (rm6 (l := l) (n0 := n0) (K.2.2.2.2.2.2.2.2) A v1) pd_6 rfl d5_32 rfl rfl (by decide) (w := 0) (Nat.le_of_eq rfl) (by decide) (show cells + 0 ≤ 0 by omega) (show slots + 0 ≤ 0 by omega) rfl rfl rfl rfl (fun T2 X2 => ?_)
  exact w5_35 K sep X2 o0 i1 i2 i3 (f6_0 v1) (show cells + 0 ≤ 0 by omega) (show slots + 0 ≤ 0 by omega) hf
def f5_0 (A : AH) (o0 : Nat) (i1 : Int32) : Option (Int32 × AH) :=
  if i1 < (0 : Int32) then (f5_36 A i1)
  else ((h_isA A 10 o0).bind fun y2 =>
  (f11_0 A o0 i1).bind fun q1 =>
  (asR (h_fget q1.2 10 o0 4)).bind fun v3 =>
  (asI (h_aget q1.2 0 v3 q1.1)).bind fun v4 =>
  if v4 = (-1 : Int32) then (f5_35 q1.2 q1.1)
  else ((asR (h_fget q1.2 10 o0 4)).bind fun v5 =>
  f5_30 q1.2 q1.1 v5))
set_option maxRecDepth 65536 in
set_option maxHeartbeats 4000000 in
theorem w5_0 (K : Cx p l e own_R5 s m meth c Z a0 tables_1 "com/example/thabiti/thabiti/core/Bindings" "resolve" prog_8_method_6_code 4 (some .int)) (sep : ∀ t, Sep Z (own_D t).2) (X : On p l e own_R5 s m args below meth c own_D Z n0 T A cells slots) (o0 : Nat) (i1 : Int32) (hc : cells + 0 ≤ 0) (hs : slots + 0 ≤ 0) {q : Int32 × AH} (hf : f5_0 A o0 i1 = some q) :
    Go p e below (T.setTop (mkF m 0 #[.val (.ref (n0 + o0)), .val (.int i1), .unset, .unset] [])) (Fini own_D Z n0 s own_R5 (some (.int q.1)) q.2) := by
  unfold f5_0 at hf
  refine i_iloadN (pc' := 1) K X d5_0 rfl rfl ?_
  refine i_istoreN (pc' := 2) (Ls' := #[.val (.ref (n0 + o0)), .val (.int i1), .val (.int i1), .unset]) K X d5_1 rfl rfl ?_
  refine i_iloadN (pc' := 3) K X d5_2 rfl rfl ?_
  by_cases hc3 : i1 < (0 : Int32)
  · rw [if_pos hc3] at hf
    refine i_ifYes (pc' := 36) K X d5_3 (tlt hc3).1 (by decide) (by decide) ?_
    exact w5_36 K sep X o0 i1 i1 .unset One.u (show cells + 0 ≤ 0 by omega) (show slots + 0 ≤ 0 by omega) hf
  · rw [if_neg hc3] at hf
    refine i_ifNo (pc' := 6) K X d5_3 rfl (flt hc3).1 ?_
    refine i_aloadN (pc' := 7) K X d5_6 rfl rfl rfl ?_
    refine i_iloadN (pc' := 8) K X d5_7 rfl rfl ?_
    obtain ⟨y2, g2, hf⟩ := bs hf
    obtain ⟨q1, g1, hf⟩ := bs hf
    refine callp (pc' := 11) (kc := cells) (ks := slots) (S' := [(.int q1.1)]) (st := []) K X (i1 := 64) rfl (i2 := 66) rfl (i5 := 1) (t := 10) rfl (i6 := 65) rfl (i3 := 2) rfl (i4 := 67) rfl (by decide) (by decide) g2 (rm11 (l := l) (n0 := n0) (K.2.2.2.2.2.2.2.2) A o0 i1 g1) pd_11 rfl d5_8 rfl rfl (by decide) (w := 0) (Nat.le_of_eq rfl) (by decide) (show cells + 0 ≤ 0 by omega) (show slots + 0 ≤ 0 by omega) rfl rfl rfl rfl (fun T1 X1 => ?_)
    refine i_istoreN (pc' := 12) (Ls' := #[.val (.ref (n0 + o0)), .val (.int i1), .val (.int i1), .val (.int q1.1)]) K X1 d5_11 rfl rfl ?_
    refine i_aloadN (pc' := 13) K X1 d5_12 rfl rfl rfl ?_
    obtain ⟨v3, g3, hf⟩ := bs hf
    refine getfR (pc' := 16) K X1 (i := 18) rfl d5_13 (t := 10) (f := 4) (by decide) rfl g3 rfl (fun T3 X3 => ?_)
    refine i_iloadN (pc' := 17) K X3 d5_16 rfl rfl ?_
    obtain ⟨v4, g4, hf⟩ := bs hf
    refine ld0 (pc' := 18) K X3 g4 d5_17 rfl ?_
    refine i_iconst (pc' := 19) (v := (-1 : Int32)) K X3 d5_18 rfl rfl ?_
    by_cases hc19 : v4 = (-1 : Int32)
    · rw [if_pos hc19] at hf
      refine i_icmpNo (pc' := 22) K X3 d5_19 rfl (teq hc19).2 ?_
      refine i_iloadN (pc' := 23) K X3 d5_22 rfl rfl ?_
      refine i_goto (pc' := 35) K X3 d5_23 (by decide) (by decide) ?_
      exact w5_35 K sep X3 o0 i1 i1 q1.1 q1.1 (show cells + 0 ≤ 0 by omega) (show slots + 0 ≤ 0 by omega) hf
    · rw [if_neg hc19] at hf
      refine i_icmpYes (pc' := 26) K X3 d5_19 (feq hc19).2 (by decide) (by decide) ?_
      refine i_aloadN (pc' := 27) K X3 d5_26 rfl rfl rfl ?_
      obtain ⟨v5, g5, hf⟩ := bs hf
      refine getfR (pc' := 30) K X3 (i := 18) rfl d5_27 (t := 10) (f := 4) (by decide) rfl g5 rfl (fun T5 X5 => ?_)
      exact w5_30 K sep X5 o0 i1 i1 q1.1 v5 (show cells + 0 ≤ 0 by omega) (show slots + 0 ≤ 0 by omega) hf
theorem pn_5 : plainName "com/example/thabiti/thabiti/core/Bindings" = true := by first | (simp [plainName, overriddenIn]; done) | decide +kernel
theorem rm5 {l : Launch} {Z : State} {a0 : Array Value} {n0 : Nat} (hw : ∀ d ∈ tables_1, d.before a0 Z = true) (A : AH) (o0 : Nat) (i1 : Int32) {q : Int32 × AH} (hf : f5_0 A o0 i1 = some q) :
    Met l own_D Z n0 (⟨"com/example/thabiti/thabiti/core/Bindings", "resolve", "(I)I"⟩ : MethodName) prog_8_method_6_code 4 (some .int) own_R5 [(.ref (n0 + o0)), (.int i1)] A (some (.int q.1)) q.2 :=
  met (W := tables_1) (a0 := a0) (own := "com/example/thabiti/thabiti/core/Bindings") (nm := "resolve") (L0 := #[.val (.ref (n0 + o0)), .val (.int i1), .unset, .unset]) (plainFor_of_name pn_5) hw rfl rfl (fun m => by first | (simp [entryFrame, mkF, argsToLocals, Value.category]; done) | rfl) (fun p e s m below meth c T K X => w5_0 K (own_sep hw) X o0 i1 (show 0 + 0 ≤ 0 by decide) (show 0 + 0 ≤ 0 by decide) hf)
/-! body 14: Bindings.record(II)V -/
theorem d14_0 : decode prog_8_method_15_code 0 = .ok (.aload_n 0, 1) := by decide +kernel
theorem d14_1 : decode prog_8_method_15_code 1 = .ok (.getfield 30, 3) := by decide +kernel
theorem d14_4 : decode prog_8_method_15_code 4 = .ok (.iconst 5, 1) := by decide +kernel
theorem d14_5 : decode prog_8_method_15_code 5 = .ok (.iadd, 1) := by decide +kernel
theorem d14_6 : decode prog_8_method_15_code 6 = .ok (.aload_n 0, 1) := by decide +kernel
theorem d14_7 : decode prog_8_method_15_code 7 = .ok (.getfield 9, 3) := by decide +kernel
theorem d14_10 : decode prog_8_method_15_code 10 = .ok (.arraylength, 1) := by decide +kernel
theorem d14_11 : decode prog_8_method_15_code 11 = .ok (.if_icmp .le 21, 3) := by decide +kernel
theorem d14_14 : decode prog_8_method_15_code 14 = .ok (.aload_n 0, 1) := by decide +kernel
theorem d14_15 : decode prog_8_method_15_code 15 = .ok (.aload_n 0, 1) := by decide +kernel
theorem d14_16 : decode prog_8_method_15_code 16 = .ok (.getfield 9, 3) := by decide +kernel
theorem d14_19 : decode prog_8_method_15_code 19 = .ok (.iconst 2, 1) := by decide +kernel
theorem d14_20 : decode prog_8_method_15_code 20 = .ok (.aload_n 0, 1) := by decide +kernel
theorem d14_21 : decode prog_8_method_15_code 21 = .ok (.getfield 9, 3) := by decide +kernel
theorem d14_24 : decode prog_8_method_15_code 24 = .ok (.arraylength, 1) := by decide +kernel
theorem d14_25 : decode prog_8_method_15_code 25 = .ok (.imul, 1) := by decide +kernel
theorem d14_32 : decode prog_8_method_15_code 32 = .ok (.aload_n 0, 1) := by decide +kernel
theorem d14_33 : decode prog_8_method_15_code 33 = .ok (.getfield 9, 3) := by decide +kernel
theorem d14_36 : decode prog_8_method_15_code 36 = .ok (.aload_n 0, 1) := by decide +kernel
theorem d14_37 : decode prog_8_method_15_code 37 = .ok (.getfield 30, 3) := by decide +kernel
theorem d14_40 : decode prog_8_method_15_code 40 = .ok (.iload_n 1, 1) := by decide +kernel
theorem d14_41 : decode prog_8_method_15_code 41 = .ok (.iastore, 1) := by decide +kernel
theorem d14_42 : decode prog_8_method_15_code 42 = .ok (.aload_n 0, 1) := by decide +kernel
theorem d14_43 : decode prog_8_method_15_code 43 = .ok (.getfield 9, 3) := by decide +kernel
theorem d14_46 : decode prog_8_method_15_code 46 = .ok (.aload_n 0, 1) := by decide +kernel
theorem d14_47 : decode prog_8_method_15_code 47 = .ok (.getfield 30, 3) := by decide +kernel
theorem d14_50 : decode prog_8_method_15_code 50 = .ok (.iconst 1, 1) := by decide +kernel
theorem d14_51 : decode prog_8_method_15_code 51 = .ok (.iadd, 1) := by decide +kernel
theorem d14_52 : decode prog_8_method_15_code 52 = .ok (.aload_n 0, 1) := by decide +kernel
theorem d14_53 : decode prog_8_method_15_code 53 = .ok (.getfield 20, 3) := by decide +kernel
theorem d14_56 : decode prog_8_method_15_code 56 = .ok (.iload_n 1, 1) := by decide +kernel
theorem d14_57 : decode prog_8_method_15_code 57 = .ok (.iaload, 1) := by decide +kernel
theorem d14_58 : decode prog_8_method_15_code 58 = .ok (.iastore, 1) := by decide +kernel
theorem d14_59 : decode prog_8_method_15_code 59 = .ok (.aload_n 0, 1) := by decide +kernel
theorem d14_60 : decode prog_8_method_15_code 60 = .ok (.getfield 9, 3) := by decide +kernel
theorem d14_63 : decode prog_8_method_15_code 63 = .ok (.aload_n 0, 1) := by decide +kernel
theorem d14_64 : decode prog_8_method_15_code 64 = .ok (.getfield 30, 3) := by decide +kernel
theorem d14_67 : decode prog_8_method_15_code 67 = .ok (.iconst 2, 1) := by decide +kernel
theorem d14_68 : decode prog_8_method_15_code 68 = .ok (.iadd, 1) := by decide +kernel
theorem d14_69 : decode prog_8_method_15_code 69 = .ok (.aload_n 0, 1) := by decide +kernel
theorem d14_70 : decode prog_8_method_15_code 70 = .ok (.getfield 23, 3) := by decide +kernel
theorem d14_73 : decode prog_8_method_15_code 73 = .ok (.iload_n 1, 1) := by decide +kernel
theorem d14_74 : decode prog_8_method_15_code 74 = .ok (.iaload, 1) := by decide +kernel
theorem d14_75 : decode prog_8_method_15_code 75 = .ok (.iastore, 1) := by decide +kernel
theorem d14_76 : decode prog_8_method_15_code 76 = .ok (.aload_n 0, 1) := by decide +kernel
theorem d14_77 : decode prog_8_method_15_code 77 = .ok (.getfield 9, 3) := by decide +kernel
theorem d14_80 : decode prog_8_method_15_code 80 = .ok (.aload_n 0, 1) := by decide +kernel
theorem d14_81 : decode prog_8_method_15_code 81 = .ok (.getfield 30, 3) := by decide +kernel
theorem d14_84 : decode prog_8_method_15_code 84 = .ok (.iconst 3, 1) := by decide +kernel
theorem d14_85 : decode prog_8_method_15_code 85 = .ok (.iadd, 1) := by decide +kernel
theorem d14_86 : decode prog_8_method_15_code 86 = .ok (.aload_n 0, 1) := by decide +kernel
theorem d14_87 : decode prog_8_method_15_code 87 = .ok (.getfield 26, 3) := by decide +kernel
theorem d14_90 : decode prog_8_method_15_code 90 = .ok (.iload_n 1, 1) := by decide +kernel
theorem d14_91 : decode prog_8_method_15_code 91 = .ok (.baload, 1) := by decide +kernel
theorem d14_92 : decode prog_8_method_15_code 92 = .ok (.ifCond .eq 7, 3) := by decide +kernel
theorem d14_95 : decode prog_8_method_15_code 95 = .ok (.iconst 1, 1) := by decide +kernel
theorem d14_96 : decode prog_8_method_15_code 96 = .ok (.goto 4, 3) := by decide +kernel
theorem d14_99 : decode prog_8_method_15_code 99 = .ok (.iconst 0, 1) := by decide +kernel
theorem d14_100 : decode prog_8_method_15_code 100 = .ok (.iastore, 1) := by decide +kernel
theorem d14_101 : decode prog_8_method_15_code 101 = .ok (.aload_n 0, 1) := by decide +kernel
theorem d14_102 : decode prog_8_method_15_code 102 = .ok (.getfield 9, 3) := by decide +kernel
theorem d14_105 : decode prog_8_method_15_code 105 = .ok (.aload_n 0, 1) := by decide +kernel
theorem d14_106 : decode prog_8_method_15_code 106 = .ok (.getfield 30, 3) := by decide +kernel
theorem d14_109 : decode prog_8_method_15_code 109 = .ok (.iconst 4, 1) := by decide +kernel
theorem d14_110 : decode prog_8_method_15_code 110 = .ok (.iadd, 1) := by decide +kernel
theorem d14_111 : decode prog_8_method_15_code 111 = .ok (.iload_n 2, 1) := by decide +kernel
theorem d14_112 : decode prog_8_method_15_code 112 = .ok (.iastore, 1) := by decide +kernel
theorem d14_113 : decode prog_8_method_15_code 113 = .ok (.aload_n 0, 1) := by decide +kernel
theorem d14_114 : decode prog_8_method_15_code 114 = .ok (.dup, 1) := by decide +kernel
theorem d14_115 : decode prog_8_method_15_code 115 = .ok (.getfield 30, 3) := by decide +kernel
theorem d14_118 : decode prog_8_method_15_code 118 = .ok (.iconst 5, 1) := by decide +kernel
theorem d14_119 : decode prog_8_method_15_code 119 = .ok (.iadd, 1) := by decide +kernel
theorem d14_120 : decode prog_8_method_15_code 120 = .ok (.putfield 30, 3) := by decide +kernel
theorem d14_123 : decode prog_8_method_15_code 123 = .ok (.return_, 1) := by decide +kernel
theorem pd_14 : parseMethodDescriptor "(II)V" = some ⟨[.int, .int], none⟩ := by decide +kernel
abbrev own_R14 : Room := { frames := 0, cells := 0, slots := 0, locals := 0 }
def f14_100 (A : AH) (o0 : Nat) (i2 : Int32) (s0 : Int32) (s1 : Int32) (r2 : Nat) : Option (AH) :=
  (h_aset A 0 r2 s1 (.int s0)).bind fun A1 =>
  (asR (h_fget A1 10 o0 0)).bind fun v2 =>
  (asI (h_fget A1 10 o0 6)).bind fun v3 =>
  (h_aset A1 0 v2 (v3 + (4 : Int32)) (.int i2)).bind fun A4 =>
  (asI (h_fget A4 10 o0 6)).bind fun v5 =>
  (h_fset A4 10 o0 6 (.int (v5 + (5 : Int32)))).bind fun A6 =>
  some A6
set_option maxRecDepth 65536 in
set_option maxHeartbeats 4000000 in
theorem w14_100 (K : Cx p l e own_R14 s m meth c Z a0 tables_1 "com/example/thabiti/thabiti/core/Bindings" "record" prog_8_method_15_code 3 none) (sep : ∀ t, Sep Z (own_D t).2) (X : On p l e own_R14 s m args below meth c own_D Z n0 T A cells slots) (o0 : Nat) (i1 : Int32) (i2 : Int32) (s0 : Int32) (s1 : Int32) (r2 : Nat) (hc : cells + 0 ≤ 0) (hs : slots + 0 ≤ 0) {q : AH} (hf : f14_100 A o0 i2 s0 s1 r2 = some q) :
    Go p e below (T.setTop (mkF m 100 #[.val (.ref (n0 + o0)), .val (.int i1), .val (.int i2)] [(.int s0), (.int s1), (.ref (n0 + r2))])) (Fini own_D Z n0 s own_R14 none q) := by
  unfold f14_100 at hf
  obtain ⟨A1, g1, hf⟩ := bs hf
  refine ast0 (pc' := 101) K X g1 d14_100 rfl (fun T1 X1 => ?_)
  refine i_aloadN (pc' := 102) K X1 d14_101 rfl rfl rfl ?_
  obtain ⟨v2, g2, hf⟩ := bs hf
  refine getfR (pc' := 105) K X1 (i := 10) rfl d14_102 (t := 10) (f := 0) (by decide) rfl g2 rfl (fun T2 X2 => ?_)
  refine i_aloadN (pc' := 106) K X2 d14_105 rfl rfl rfl ?_
  obtain ⟨v3, g3, hf⟩ := bs hf
  refine getfI (pc' := 109) K X2 (i := 53) rfl d14_106 (t := 10) (f := 6) (by decide) rfl g3 rfl (fun T3 X3 => ?_)
  refine i_iconst (pc' := 110) (v := (4 : Int32)) K X3 d14_109 rfl rfl ?_
  refine i_iadd (pc' := 111) K X3 d14_110 rfl ?_
  refine i_iloadN (pc' := 112) K X3 d14_111 rfl rfl ?_
  obtain ⟨A4, g4, hf⟩ := bs hf
  refine ast0 (pc' := 113) K X3 g4 d14_112 rfl (fun T4 X4 => ?_)
  refine i_aloadN (pc' := 114) K X4 d14_113 rfl rfl rfl ?_
  refine i_dup (pc' := 115) K X4 d14_114 rfl rfl ?_
  obtain ⟨v5, g5, hf⟩ := bs hf
  refine getfI (pc' := 118) K X4 (i := 53) rfl d14_115 (t := 10) (f := 6) (by decide) rfl g5 rfl (fun T5 X5 => ?_)
  refine i_iconst (pc' := 119) (v := (5 : Int32)) K X5 d14_118 rfl rfl ?_
  refine i_iadd (pc' := 120) K X5 d14_119 rfl ?_
  obtain ⟨A6, g6, hf⟩ := bs hf
  refine putf (pc' := 123) (va := (.int (v5 + (5 : Int32)))) K sep X5 (i := 53) rfl d14_120 (t := 10) (f := 6) (by decide) rfl (Or.inl (wd K (i := 54) rfl)) (i2 := 1) rfl (ty := .int) (by decide) rfl rfl g6 rfl (fun T6 X6 => ?_)
  cases hf
  exact retV K X6 (show cells ≤ 0 by omega) (show slots ≤ 0 by omega) d14_123
def f14_96 (A : AH) (o0 : Nat) (i2 : Int32) (s0 : Int32) (s1 : Int32) (r2 : Nat) : Option (AH) :=
  f14_100 A o0 i2 s0 s1 r2
set_option maxRecDepth 65536 in
set_option maxHeartbeats 4000000 in
theorem w14_96 (K : Cx p l e own_R14 s m meth c Z a0 tables_1 "com/example/thabiti/thabiti/core/Bindings" "record" prog_8_method_15_code 3 none) (sep : ∀ t, Sep Z (own_D t).2) (X : On p l e own_R14 s m args below meth c own_D Z n0 T A cells slots) (o0 : Nat) (i1 : Int32) (i2 : Int32) (s0 : Int32) (s1 : Int32) (r2 : Nat) (hc : cells + 0 ≤ 0) (hs : slots + 0 ≤ 0) {q : AH} (hf : f14_96 A o0 i2 s0 s1 r2 = some q) :
    Go p e below (T.setTop (mkF m 96 #[.val (.ref (n0 + o0)), .val (.int i1), .val (.int i2)] [(.int s0), (.int s1), (.ref (n0 + r2))])) (Fini own_D Z n0 s own_R14 none q) := by
  unfold f14_96 at hf
  refine i_goto (pc' := 100) K X d14_96 (by decide) (by decide) ?_
  exact w14_100 K sep X o0 i1 i2 s0 s1 r2 (show cells + 0 ≤ 0 by omega) (show slots + 0 ≤ 0 by omega) hf
def f14_70 (A : AH) (o0 : Nat) (i1 : Int32) (i2 : Int32) (r0 : Nat) (s1 : Int32) (r2 : Nat) : Option (AH) :=
  (asR (h_fget A 10 r0 4)).bind fun v1 =>
  (asI (h_aget A 0 v1 i1)).bind fun v2 =>
  (h_aset A 0 r2 s1 (.int v2)).bind fun A3 =>
  (asR (h_fget A3 10 o0 0)).bind fun v4 =>
  (asI (h_fget A3 10 o0 6)).bind fun v5 =>
  (asR (h_fget A3 10 o0 5)).bind fun v6 =>
  (asI (h_aget A3 4 v6 i1)).bind fun v7 =>
  if v7 = (0 : Int32) then (f14_100 A3 o0 i2 (0 : Int32) (v5 + (3 : Int32)) v4)
  else (f14_96 A3 o0 i2 (1 : Int32) (v5 + (3 : Int32)) v4)
set_option maxRecDepth 65536 in
set_option maxHeartbeats 4000000 in
theorem w14_70 (K : Cx p l e own_R14 s m meth c Z a0 tables_1 "com/example/thabiti/thabiti/core/Bindings" "record" prog_8_method_15_code 3 none) (sep : ∀ t, Sep Z (own_D t).2) (X : On p l e own_R14 s m args below meth c own_D Z n0 T A cells slots) (o0 : Nat) (i1 : Int32) (i2 : Int32) (r0 : Nat) (s1 : Int32) (r2 : Nat) (hc : cells + 0 ≤ 0) (hs : slots + 0 ≤ 0) {q : AH} (hf : f14_70 A o0 i1 i2 r0 s1 r2 = some q) :
    Go p e below (T.setTop (mkF m 70 #[.val (.ref (n0 + o0)), .val (.int i1), .val (.int i2)] [(.ref (n0 + r0)), (.int s1), (.ref (n0 + r2))])) (Fini own_D Z n0 s own_R14 none q) := by
  unfold f14_70 at hf
  obtain ⟨v1, g1, hf⟩ := bs hf
  refine getfR (pc' := 73) K X (i := 18) rfl d14_70 (t := 10) (f := 4) (by decide) rfl g1 rfl (fun T1 X1 => ?_)
  refine i_iloadN (pc' := 74) K X1 d14_73 rfl rfl ?_
  obtain ⟨v2, g2, hf⟩ := bs hf
  refine ld0 (pc' := 75) K X1 g2 d14_74 rfl ?_
  obtain ⟨A3, g3, hf⟩ := bs hf
  refine ast0 (pc' := 76) K X1 g3 d14_75 rfl (fun T3 X3 => ?_)
  refine i_aloadN (pc' := 77) K X3 d14_76 rfl rfl rfl ?_
  obtain ⟨v4, g4, hf⟩ := bs hf
  refine getfR (pc' := 80) K X3 (i := 10) rfl d14_77 (t := 10) (f := 0) (by decide) rfl g4 rfl (fun T4 X4 => ?_)
  refine i_aloadN (pc' := 81) K X4 d14_80 rfl rfl rfl ?_
  obtain ⟨v5, g5, hf⟩ := bs hf
  refine getfI (pc' := 84) K X4 (i := 53) rfl d14_81 (t := 10) (f := 6) (by decide) rfl g5 rfl (fun T5 X5 => ?_)
  refine i_iconst (pc' := 85) (v := (3 : Int32)) K X5 d14_84 rfl rfl ?_
  refine i_iadd (pc' := 86) K X5 d14_85 rfl ?_
  refine i_aloadN (pc' := 87) K X5 d14_86 rfl rfl rfl ?_
  obtain ⟨v6, g6, hf⟩ := bs hf
  refine getfR (pc' := 90) K X5 (i := 21) rfl d14_87 (t := 10) (f := 5) (by decide) rfl g6 rfl (fun T6 X6 => ?_)
  refine i_iloadN (pc' := 91) K X6 d14_90 rfl rfl ?_
  obtain ⟨v7, g7, hf⟩ := bs hf
  refine ld4 (pc' := 92) K X6 g7 d14_91 rfl ?_
  by_cases hc92 : v7 = (0 : Int32)
  · rw [if_pos hc92] at hf
    refine i_ifYes (pc' := 99) K X6 d14_92 (teq hc92).1 (by decide) (by decide) ?_
    refine i_iconst (pc' := 100) (v := (0 : Int32)) K X6 d14_99 rfl rfl ?_
    exact w14_100 K sep X6 o0 i1 i2 (0 : Int32) (v5 + (3 : Int32)) v4 (show cells + 0 ≤ 0 by omega) (show slots + 0 ≤ 0 by omega) hf
  · rw [if_neg hc92] at hf
    refine i_ifNo (pc' := 95) K X6 d14_92 rfl (feq hc92).1 ?_
    refine i_iconst (pc' := 96) (v := (1 : Int32)) K X6 d14_95 rfl rfl ?_
    exact w14_96 K sep X6 o0 i1 i2 (1 : Int32) (v5 + (3 : Int32)) v4 (show cells + 0 ≤ 0 by omega) (show slots + 0 ≤ 0 by omega) hf
def f14_46 (A : AH) (o0 : Nat) (i1 : Int32) (i2 : Int32) (r0 : Nat) : Option (AH) :=
  (asI (h_fget A 10 o0 6)).bind fun v1 =>
  (asR (h_fget A 10 o0 3)).bind fun v2 =>
  (asI (h_aget A 0 v2 i1)).bind fun v3 =>
  (h_aset A 0 r0 (v1 + (1 : Int32)) (.int v3)).bind fun A4 =>
  (asR (h_fget A4 10 o0 0)).bind fun v5 =>
  (asI (h_fget A4 10 o0 6)).bind fun v6 =>
  f14_70 A4 o0 i1 i2 o0 (v6 + (2 : Int32)) v5
set_option maxRecDepth 65536 in
set_option maxHeartbeats 4000000 in
theorem w14_46 (K : Cx p l e own_R14 s m meth c Z a0 tables_1 "com/example/thabiti/thabiti/core/Bindings" "record" prog_8_method_15_code 3 none) (sep : ∀ t, Sep Z (own_D t).2) (X : On p l e own_R14 s m args below meth c own_D Z n0 T A cells slots) (o0 : Nat) (i1 : Int32) (i2 : Int32) (r0 : Nat) (hc : cells + 0 ≤ 0) (hs : slots + 0 ≤ 0) {q : AH} (hf : f14_46 A o0 i1 i2 r0 = some q) :
    Go p e below (T.setTop (mkF m 46 #[.val (.ref (n0 + o0)), .val (.int i1), .val (.int i2)] [(.ref (n0 + r0))])) (Fini own_D Z n0 s own_R14 none q) := by
  unfold f14_46 at hf
  refine i_aloadN (pc' := 47) K X d14_46 rfl rfl rfl ?_
  obtain ⟨v1, g1, hf⟩ := bs hf
  refine getfI (pc' := 50) K X (i := 53) rfl d14_47 (t := 10) (f := 6) (by decide) rfl g1 rfl (fun T1 X1 => ?_)
  refine i_iconst (pc' := 51) (v := (1 : Int32)) K X1 d14_50 rfl rfl ?_
  refine i_iadd (pc' := 52) K X1 d14_51 rfl ?_
  refine i_aloadN (pc' := 53) K X1 d14_52 rfl rfl rfl ?_
  obtain ⟨v2, g2, hf⟩ := bs hf
  refine getfR (pc' := 56) K X1 (i := 16) rfl d14_53 (t := 10) (f := 3) (by decide) rfl g2 rfl (fun T2 X2 => ?_)
  refine i_iloadN (pc' := 57) K X2 d14_56 rfl rfl ?_
  obtain ⟨v3, g3, hf⟩ := bs hf
  refine ld0 (pc' := 58) K X2 g3 d14_57 rfl ?_
  obtain ⟨A4, g4, hf⟩ := bs hf
  refine ast0 (pc' := 59) K X2 g4 d14_58 rfl (fun T4 X4 => ?_)
  refine i_aloadN (pc' := 60) K X4 d14_59 rfl rfl rfl ?_
  obtain ⟨v5, g5, hf⟩ := bs hf
  refine getfR (pc' := 63) K X4 (i := 10) rfl d14_60 (t := 10) (f := 0) (by decide) rfl g5 rfl (fun T5 X5 => ?_)
  refine i_aloadN (pc' := 64) K X5 d14_63 rfl rfl rfl ?_
  obtain ⟨v6, g6, hf⟩ := bs hf
  refine getfI (pc' := 67) K X5 (i := 53) rfl d14_64 (t := 10) (f := 6) (by decide) rfl g6 rfl (fun T6 X6 => ?_)
  refine i_iconst (pc' := 68) (v := (2 : Int32)) K X6 d14_67 rfl rfl ?_
  refine i_iadd (pc' := 69) K X6 d14_68 rfl ?_
  refine i_aloadN (pc' := 70) K X6 d14_69 rfl rfl rfl ?_
  exact w14_70 K sep X6 o0 i1 i2 o0 (v6 + (2 : Int32)) v5 (show cells + 0 ≤ 0 by omega) (show slots + 0 ≤ 0 by omega) hf
def f14_26 (A : AH) (s0 : Int32) (r1 : Nat) (r2 : Nat) : Option (AH) :=
  none
set_option maxRecDepth 65536 in
set_option maxHeartbeats 4000000 in
theorem w14_26 (K : Cx p l e own_R14 s m meth c Z a0 tables_1 "com/example/thabiti/thabiti/core/Bindings" "record" prog_8_method_15_code 3 none) (sep : ∀ t, Sep Z (own_D t).2) (X : On p l e own_R14 s m args below meth c own_D Z n0 T A cells slots) (o0 : Nat) (i1 : Int32) (i2 : Int32) (s0 : Int32) (r1 : Nat) (r2 : Nat) (hc : cells + 0 ≤ 0) (hs : slots + 0 ≤ 0) {q : AH} (hf : f14_26 A s0 r1 r2 = some q) :
    Go p e below (T.setTop (mkF m 26 #[.val (.ref (n0 + o0)), .val (.int i1), .val (.int i2)] [(.int s0), (.ref (n0 + r1)), (.ref (n0 + r2))])) (Fini own_D Z n0 s own_R14 none q) := by
  unfold f14_26 at hf
  cases hf
def f14_0 (A : AH) (o0 : Nat) (i1 : Int32) (i2 : Int32) : Option (AH) :=
  (asI (h_fget A 10 o0 6)).bind fun v1 =>
  (asR (h_fget A 10 o0 0)).bind fun v2 =>
  (h_alen A 0 v2).bind fun v3 =>
  if v3 < (v1 + (5 : Int32)) then ((asR (h_fget A 10 o0 0)).bind fun v8 =>
  (asR (h_fget A 10 o0 0)).bind fun v9 =>
  (h_alen A 0 v9).bind fun v10 =>
  f14_26 A ((2 : Int32) * v10) v8 o0)
  else ((asR (h_fget A 10 o0 0)).bind fun v4 =>
  (asI (h_fget A 10 o0 6)).bind fun v5 =>
  (h_aset A 0 v4 v5 (.int i1)).bind fun A6 =>
  (asR (h_fget A6 10 o0 0)).bind fun v7 =>
  f14_46 A6 o0 i1 i2 v7)
set_option maxRecDepth 65536 in
set_option maxHeartbeats 4000000 in
theorem w14_0 (K : Cx p l e own_R14 s m meth c Z a0 tables_1 "com/example/thabiti/thabiti/core/Bindings" "record" prog_8_method_15_code 3 none) (sep : ∀ t, Sep Z (own_D t).2) (X : On p l e own_R14 s m args below meth c own_D Z n0 T A cells slots) (o0 : Nat) (i1 : Int32) (i2 : Int32) (hc : cells + 0 ≤ 0) (hs : slots + 0 ≤ 0) {q : AH} (hf : f14_0 A o0 i1 i2 = some q) :
    Go p e below (T.setTop (mkF m 0 #[.val (.ref (n0 + o0)), .val (.int i1), .val (.int i2)] [])) (Fini own_D Z n0 s own_R14 none q) := by
  unfold f14_0 at hf
  refine i_aloadN (pc' := 1) K X d14_0 rfl rfl rfl ?_
  obtain ⟨v1, g1, hf⟩ := bs hf
  refine getfI (pc' := 4) K X (i := 53) rfl d14_1 (t := 10) (f := 6) (by decide) rfl g1 rfl (fun T1 X1 => ?_)
  refine i_iconst (pc' := 5) (v := (5 : Int32)) K X1 d14_4 rfl rfl ?_
  refine i_iadd (pc' := 6) K X1 d14_5 rfl ?_
  refine i_aloadN (pc' := 7) K X1 d14_6 rfl rfl rfl ?_
  obtain ⟨v2, g2, hf⟩ := bs hf
  refine getfR (pc' := 10) K X1 (i := 10) rfl d14_7 (t := 10) (f := 0) (by decide) rfl g2 rfl (fun T2 X2 => ?_)
  obtain ⟨v3, g3, hf⟩ := bs hf
  refine h_alen' (pc' := 11) K X2 (t := 0) (by decide) g3 d14_10 rfl ?_
  by_cases hc11 : v3 < (v1 + (5 : Int32))
  · rw [if_pos hc11] at hf
    refine i_icmpNo (pc' := 14) K X2 d14_11 rfl (tlt hc11).2.2.2 ?_
    refine i_aloadN (pc' := 15) K X2 d14_14 rfl rfl rfl ?_
    refine i_aloadN (pc' := 16) K X2 d14_15 rfl rfl rfl ?_
    obtain ⟨v8, g8, hf⟩ := bs hf
    refine getfR (pc' := 19) K X2 (i := 10) rfl d14_16 (t := 10) (f := 0) (by decide) rfl g8 rfl (fun T8 X8 => ?_)
    refine i_iconst (pc' := 20) (v := (2 : Int32)) K X8 d14_19 rfl rfl ?_
    refine i_aloadN (pc' := 21) K X8 d14_20 rfl rfl rfl ?_
    obtain ⟨v9, g9, hf⟩ := bs hf
    refine getfR (pc' := 24) K X8 (i := 10) rfl d14_21 (t := 10) (f := 0) (by decide) rfl g9 rfl (fun T9 X9 => ?_)
    obtain ⟨v10, g10, hf⟩ := bs hf
    refine h_alen' (pc' := 25) K X9 (t := 0) (by decide) g10 d14_24 rfl ?_
    refine i_imul (pc' := 26) K X9 d14_25 rfl ?_
    exact w14_26 K sep X9 o0 i1 i2 ((2 : Int32) * v10) v8 o0 (show cells + 0 ≤ 0 by omega) (show slots + 0 ≤ 0 by omega) hf
  · rw [if_neg hc11] at hf
    refine i_icmpYes (pc' := 32) K X2 d14_11 (flt hc11).2.2.2 (by decide) (by decide) ?_
    refine i_aloadN (pc' := 33) K X2 d14_32 rfl rfl rfl ?_
    obtain ⟨v4, g4, hf⟩ := bs hf
    refine getfR (pc' := 36) K X2 (i := 10) rfl d14_33 (t := 10) (f := 0) (by decide) rfl g4 rfl (fun T4 X4 => ?_)
    refine i_aloadN (pc' := 37) K X4 d14_36 rfl rfl rfl ?_
    obtain ⟨v5, g5, hf⟩ := bs hf
    refine getfI (pc' := 40) K X4 (i := 53) rfl d14_37 (t := 10) (f := 6) (by decide) rfl g5 rfl (fun T5 X5 => ?_)
    refine i_iloadN (pc' := 41) K X5 d14_40 rfl rfl ?_
    obtain ⟨A6, g6, hf⟩ := bs hf
    refine ast0 (pc' := 42) K X5 g6 d14_41 rfl (fun T6 X6 => ?_)
    refine i_aloadN (pc' := 43) K X6 d14_42 rfl rfl rfl ?_
    obtain ⟨v7, g7, hf⟩ := bs hf
    refine getfR (pc' := 46) K X6 (i := 10) rfl d14_43 (t := 10) (f := 0) (by decide) rfl g7 rfl (fun T7 X7 => ?_)
    exact w14_46 K sep X7 o0 i1 i2 v7 (show cells + 0 ≤ 0 by omega) (show slots + 0 ≤ 0 by omega) hf
theorem pn_14 : plainName "com/example/thabiti/thabiti/core/Bindings" = true := by first | (simp [plainName, overriddenIn]; done) | decide +kernel
theorem rm14 {l : Launch} {Z : State} {a0 : Array Value} {n0 : Nat} (hw : ∀ d ∈ tables_1, d.before a0 Z = true) (A : AH) (o0 : Nat) (i1 : Int32) (i2 : Int32) {q : AH} (hf : f14_0 A o0 i1 i2 = some q) :
    Met l own_D Z n0 (⟨"com/example/thabiti/thabiti/core/Bindings", "record", "(II)V"⟩ : MethodName) prog_8_method_15_code 3 none own_R14 [(.ref (n0 + o0)), (.int i1), (.int i2)] A none q :=
  met (W := tables_1) (a0 := a0) (own := "com/example/thabiti/thabiti/core/Bindings") (nm := "record") (L0 := #[.val (.ref (n0 + o0)), .val (.int i1), .val (.int i2)]) (plainFor_of_name pn_14) hw rfl rfl (fun m => by first | (simp [entryFrame, mkF, argsToLocals, Value.category]; done) | rfl) (fun p e s m below meth c T K X => w14_0 K (own_sep hw) X o0 i1 i2 (show 0 + 0 ≤ 0 by decide) (show 0 + 0 ≤ 0 by decide) hf)
/-! body 13: Bindings.bind(II)Z -/
theorem d13_0 : decode prog_8_method_13_code 0 = .ok (.aload_n 0, 1) := by decide +kernel
theorem d13_1 : decode prog_8_method_13_code 1 = .ok (.getfield 26, 3) := by decide +kernel
theorem d13_4 : decode prog_8_method_13_code 4 = .ok (.iload_n 1, 1) := by decide +kernel
theorem d13_5 : decode prog_8_method_13_code 5 = .ok (.baload, 1) := by decide +kernel
theorem d13_6 : decode prog_8_method_13_code 6 = .ok (.ifCond .eq 13, 3) := by decide +kernel
theorem d13_9 : decode prog_8_method_13_code 9 = .ok (.iload_n 2, 1) := by decide +kernel
theorem d13_10 : decode prog_8_method_13_code 10 = .ok (.aload_n 0, 1) := by decide +kernel
theorem d13_11 : decode prog_8_method_13_code 11 = .ok (.getfield 13, 3) := by decide +kernel
theorem d13_14 : decode prog_8_method_13_code 14 = .ok (.if_icmp .lt 5, 3) := by decide +kernel
theorem d13_17 : decode prog_8_method_13_code 17 = .ok (.iconst 0, 1) := by decide +kernel
theorem d13_18 : decode prog_8_method_13_code 18 = .ok (.ireturn, 1) := by decide +kernel
theorem d13_19 : decode prog_8_method_13_code 19 = .ok (.aload_n 0, 1) := by decide +kernel
theorem d13_20 : decode prog_8_method_13_code 20 = .ok (.iload_n 1, 1) := by decide +kernel
theorem d13_21 : decode prog_8_method_13_code 21 = .ok (.iconst (-1), 1) := by decide +kernel
theorem d13_22 : decode prog_8_method_13_code 22 = .ok (.invokevirtual 53, 3) := by decide +kernel
theorem d13_25 : decode prog_8_method_13_code 25 = .ok (.aload_n 0, 1) := by decide +kernel
theorem d13_26 : decode prog_8_method_13_code 26 = .ok (.getfield 23, 3) := by decide +kernel
theorem d13_29 : decode prog_8_method_13_code 29 = .ok (.iload_n 1, 1) := by decide +kernel
theorem d13_30 : decode prog_8_method_13_code 30 = .ok (.iload_n 2, 1) := by decide +kernel
theorem d13_31 : decode prog_8_method_13_code 31 = .ok (.iastore, 1) := by decide +kernel
theorem d13_32 : decode prog_8_method_13_code 32 = .ok (.iconst 1, 1) := by decide +kernel
theorem d13_33 : decode prog_8_method_13_code 33 = .ok (.ireturn, 1) := by decide +kernel
theorem pd_13 : parseMethodDescriptor "(II)Z" = some ⟨[.int, .int], some .boolean⟩ := by decide +kernel
abbrev own_R13 : Room := { frames := 1, cells := 0, slots := 0, locals := 14 }
def f13_19 (A : AH) (o0 : Nat) (i1 : Int32) (i2 : Int32) : Option (Int32 × AH) :=
  (h_isA A 10 o0).bind fun y2 =>
  (f14_0 A o0 i1 (-1 : Int32)).bind fun A1 =>
  (asR (h_fget A1 10 o0 4)).bind fun v3 =>
  (h_aset A1 0 v3 i1 (.int i2)).bind fun A4 =>
  some ((nar .boolean (1 : Int32)), A4)
set_option maxRecDepth 65536 in
set_option maxHeartbeats 4000000 in
theorem w13_19 (K : Cx p l e own_R13 s m meth c Z a0 tables_1 "com/example/thabiti/thabiti/core/Bindings" "bind" prog_8_method_13_code 3 (some .boolean)) (sep : ∀ t, Sep Z (own_D t).2) (X : On p l e own_R13 s m args below meth c own_D Z n0 T A cells slots) (o0 : Nat) (i1 : Int32) (i2 : Int32) (hc : cells + 0 ≤ 0) (hs : slots + 0 ≤ 0) {q : Int32 × AH} (hf : f13_19 A o0 i1 i2 = some q) :
    Go p e below (T.setTop (mkF m 19 #[.val (.ref (n0 + o0)), .val (.int i1), .val (.int i2)] [])) (Fini own_D Z n0 s own_R13 (some (.int q.1)) q.2) := by
  unfold f13_19 at hf
  refine i_aloadN (pc' := 20) K X d13_19 rfl rfl rfl ?_
  refine i_iloadN (pc' := 21) K X d13_20 rfl rfl ?_
  refine i_iconst (pc' := 22) (v := (-1 : Int32)) K X d13_21 rfl rfl ?_
  obtain ⟨y2, g2, hf⟩ := bs hf
  obtain ⟨A1, g1, hf⟩ := bs hf
  refine callp (pc' := 25) (kc := cells) (ks := slots) (S' := []) (st := []) K X (i1 := 77) rfl (i2 := 79) rfl (i5 := 1) (t := 10) rfl (i6 := 78) rfl (i3 := 2) rfl (i4 := 80) rfl (by decide) (by decide) g2 (rm14 (l := l) (n0 := n0) (K.2.2.2.2.2.2.2.2) A o0 i1 (-1 : Int32) g1) pd_14 rfl d13_22 rfl rfl (by decide) (w := 0) (Nat.le_of_eq rfl) (by decide) (show cells + 0 ≤ 0 by omega) (show slots + 0 ≤ 0 by omega) rfl rfl rfl rfl (fun T1 X1 => ?_)
  refine i_aloadN (pc' := 26) K X1 d13_25 rfl rfl rfl ?_
  obtain ⟨v3, g3, hf⟩ := bs hf
  refine getfR (pc' := 29) K X1 (i := 18) rfl d13_26 (t := 10) (f := 4) (by decide) rfl g3 rfl (fun T3 X3 => ?_)
  refine i_iloadN (pc' := 30) K X3 d13_29 rfl rfl ?_
  refine i_iloadN (pc' := 31) K X3 d13_30 rfl rfl ?_
  obtain ⟨A4, g4, hf⟩ := bs hf
  refine ast0 (pc' := 32) K X3 g4 d13_31 rfl (fun T4 X4 => ?_)
  refine i_iconst (pc' := 33) (v := (1 : Int32)) K X4 d13_32 rfl rfl ?_
  cases hf
  exact retB K (by simp) X4 (show cells ≤ 0 by omega) (show slots ≤ 0 by omega) d13_33
def f13_0 (A : AH) (o0 : Nat) (i1 : Int32) (i2 : Int32) : Option (Int32 × AH) :=
  (asR (h_fget A 10 o0 5)).bind fun v1 =>
  (asI (h_aget A 4 v1 i1)).bind fun v2 =>
  if v2 = (0 : Int32) then (f13_19 A o0 i1 i2)
  else ((asI (h_fget A 10 o0 1)).bind fun v3 =>
  if i2 < v3 then (f13_19 A o0 i1 i2)
  else (some ((nar .boolean (0 : Int32)), A)))
set_option maxRecDepth 65536 in
set_option maxHeartbeats 4000000 in
theorem w13_0 (K : Cx p l e own_R13 s m meth c Z a0 tables_1 "com/example/thabiti/thabiti/core/Bindings" "bind" prog_8_method_13_code 3 (some .boolean)) (sep : ∀ t, Sep Z (own_D t).2) (X : On p l e own_R13 s m args below meth c own_D Z n0 T A cells slots) (o0 : Nat) (i1 : Int32) (i2 : Int32) (hc : cells + 0 ≤ 0) (hs : slots + 0 ≤ 0) {q : Int32 × AH} (hf : f13_0 A o0 i1 i2 = some q) :
    Go p e below (T.setTop (mkF m 0 #[.val (.ref (n0 + o0)), .val (.int i1), .val (.int i2)] [])) (Fini own_D Z n0 s own_R13 (some (.int q.1)) q.2) := by
  unfold f13_0 at hf
  refine i_aloadN (pc' := 1) K X d13_0 rfl rfl rfl ?_
  obtain ⟨v1, g1, hf⟩ := bs hf
  refine getfR (pc' := 4) K X (i := 21) rfl d13_1 (t := 10) (f := 5) (by decide) rfl g1 rfl (fun T1 X1 => ?_)
  refine i_iloadN (pc' := 5) K X1 d13_4 rfl rfl ?_
  obtain ⟨v2, g2, hf⟩ := bs hf
  refine ld4 (pc' := 6) K X1 g2 d13_5 rfl ?_
  by_cases hc6 : v2 = (0 : Int32)
  · rw [if_pos hc6] at hf
    refine i_ifYes (pc' := 19) K X1 d13_6 (teq hc6).1 (by decide) (by decide) ?_
    exact w13_19 K sep X1 o0 i1 i2 (show cells + 0 ≤ 0 by omega) (show slots + 0 ≤ 0 by omega) hf
  · rw [if_neg hc6] at hf
    refine i_ifNo (pc' := 9) K X1 d13_6 rfl (feq hc6).1 ?_
    refine i_iloadN (pc' := 10) K X1 d13_9 rfl rfl ?_
    refine i_aloadN (pc' := 11) K X1 d13_10 rfl rfl rfl ?_
    obtain ⟨v3, g3, hf⟩ := bs hf
    refine getfI (pc' := 14) K X1 (i := 12) rfl d13_11 (t := 10) (f := 1) (by decide) rfl g3 rfl (fun T3 X3 => ?_)
    by_cases hc14 : i2 < v3
    · rw [if_pos hc14] at hf
      refine i_icmpYes (pc' := 19) K X3 d13_14 (tlt hc14).1 (by decide) (by decide) ?_
      exact w13_19 K sep X3 o0 i1 i2 (show cells + 0 ≤ 0 by omega) (show slots + 0 ≤ 0 by omega) hf
    · rw [if_neg hc14] at hf
      refine i_icmpNo (pc' := 17) K X3 d13_14 rfl (flt hc14).1 ?_
      refine i_iconst (pc' := 18) (v := (0 : Int32)) K X3 d13_17 rfl rfl ?_
      cases hf
      exact retB K (by simp) X3 (show cells ≤ 0 by omega) (show slots ≤ 0 by omega) d13_18
theorem pn_13 : plainName "com/example/thabiti/thabiti/core/Bindings" = true := by first | (simp [plainName, overriddenIn]; done) | decide +kernel
theorem rm13 {l : Launch} {Z : State} {a0 : Array Value} {n0 : Nat} (hw : ∀ d ∈ tables_1, d.before a0 Z = true) (A : AH) (o0 : Nat) (i1 : Int32) (i2 : Int32) {q : Int32 × AH} (hf : f13_0 A o0 i1 i2 = some q) :
    Met l own_D Z n0 (⟨"com/example/thabiti/thabiti/core/Bindings", "bind", "(II)Z"⟩ : MethodName) prog_8_method_13_code 3 (some .boolean) own_R13 [(.ref (n0 + o0)), (.int i1), (.int i2)] A (some (.int q.1)) q.2 :=
  met (W := tables_1) (a0 := a0) (own := "com/example/thabiti/thabiti/core/Bindings") (nm := "bind") (L0 := #[.val (.ref (n0 + o0)), .val (.int i1), .val (.int i2)]) (plainFor_of_name pn_13) hw rfl rfl (fun m => by first | (simp [entryFrame, mkF, argsToLocals, Value.category]; done) | rfl) (fun p e s m below meth c T K X => w13_0 K (own_sep hw) X o0 i1 i2 (show 0 + 0 ≤ 0 by decide) (show 0 + 0 ≤ 0 by decide) hf)
/-! body 16: Bindings.join(II)V -/
theorem d16_0 : decode prog_8_method_14_code 0 = .ok (.aload_n 0, 1) := by decide +kernel
theorem d16_1 : decode prog_8_method_14_code 1 = .ok (.getfield 20, 3) := by decide +kernel
theorem d16_4 : decode prog_8_method_14_code 4 = .ok (.iload_n 1, 1) := by decide +kernel
theorem d16_5 : decode prog_8_method_14_code 5 = .ok (.iaload, 1) := by decide +kernel
theorem d16_6 : decode prog_8_method_14_code 6 = .ok (.aload_n 0, 1) := by decide +kernel
theorem d16_7 : decode prog_8_method_14_code 7 = .ok (.getfield 20, 3) := by decide +kernel
theorem d16_10 : decode prog_8_method_14_code 10 = .ok (.iload_n 2, 1) := by decide +kernel
theorem d16_11 : decode prog_8_method_14_code 11 = .ok (.iaload, 1) := by decide +kernel
theorem d16_12 : decode prog_8_method_14_code 12 = .ok (.if_icmp .lt 7, 3) := by decide +kernel
theorem d16_15 : decode prog_8_method_14_code 15 = .ok (.iload_n 1, 1) := by decide +kernel
theorem d16_16 : decode prog_8_method_14_code 16 = .ok (.goto 4, 3) := by decide +kernel
theorem d16_19 : decode prog_8_method_14_code 19 = .ok (.iload_n 2, 1) := by decide +kernel
theorem d16_20 : decode prog_8_method_14_code 20 = .ok (.istore_n 3, 1) := by decide +kernel
theorem d16_21 : decode prog_8_method_14_code 21 = .ok (.iload_n 3, 1) := by decide +kernel
theorem d16_22 : decode prog_8_method_14_code 22 = .ok (.iload_n 1, 1) := by decide +kernel
theorem d16_23 : decode prog_8_method_14_code 23 = .ok (.if_icmp .ne 7, 3) := by decide +kernel
theorem d16_26 : decode prog_8_method_14_code 26 = .ok (.iload_n 2, 1) := by decide +kernel
theorem d16_27 : decode prog_8_method_14_code 27 = .ok (.goto 4, 3) := by decide +kernel
theorem d16_30 : decode prog_8_method_14_code 30 = .ok (.iload_n 1, 1) := by decide +kernel
theorem d16_31 : decode prog_8_method_14_code 31 = .ok (.istore 4, 2) := by decide +kernel
theorem d16_33 : decode prog_8_method_14_code 33 = .ok (.aload_n 0, 1) := by decide +kernel
theorem d16_34 : decode prog_8_method_14_code 34 = .ok (.iload_n 3, 1) := by decide +kernel
theorem d16_35 : decode prog_8_method_14_code 35 = .ok (.iload 4, 2) := by decide +kernel
theorem d16_37 : decode prog_8_method_14_code 37 = .ok (.invokevirtual 53, 3) := by decide +kernel
theorem d16_40 : decode prog_8_method_14_code 40 = .ok (.aload_n 0, 1) := by decide +kernel
theorem d16_41 : decode prog_8_method_14_code 41 = .ok (.getfield 17, 3) := by decide +kernel
theorem d16_44 : decode prog_8_method_14_code 44 = .ok (.iload 4, 2) := by decide +kernel
theorem d16_46 : decode prog_8_method_14_code 46 = .ok (.iload_n 3, 1) := by decide +kernel
theorem d16_47 : decode prog_8_method_14_code 47 = .ok (.iastore, 1) := by decide +kernel
theorem d16_48 : decode prog_8_method_14_code 48 = .ok (.aload_n 0, 1) := by decide +kernel
theorem d16_49 : decode prog_8_method_14_code 49 = .ok (.getfield 20, 3) := by decide +kernel
theorem d16_52 : decode prog_8_method_14_code 52 = .ok (.iload_n 3, 1) := by decide +kernel
theorem d16_53 : decode prog_8_method_14_code 53 = .ok (.dup2, 1) := by decide +kernel
theorem d16_54 : decode prog_8_method_14_code 54 = .ok (.iaload, 1) := by decide +kernel
theorem d16_55 : decode prog_8_method_14_code 55 = .ok (.aload_n 0, 1) := by decide +kernel
theorem d16_56 : decode prog_8_method_14_code 56 = .ok (.getfield 20, 3) := by decide +kernel
theorem d16_59 : decode prog_8_method_14_code 59 = .ok (.iload 4, 2) := by decide +kernel
theorem d16_61 : decode prog_8_method_14_code 61 = .ok (.iaload, 1) := by decide +kernel
theorem d16_62 : decode prog_8_method_14_code 62 = .ok (.iadd, 1) := by decide +kernel
theorem d16_63 : decode prog_8_method_14_code 63 = .ok (.iastore, 1) := by decide +kernel
theorem d16_64 : decode prog_8_method_14_code 64 = .ok (.aload_n 0, 1) := by decide +kernel
theorem d16_65 : decode prog_8_method_14_code 65 = .ok (.getfield 26, 3) := by decide +kernel
theorem d16_68 : decode prog_8_method_14_code 68 = .ok (.iload_n 3, 1) := by decide +kernel
theorem d16_69 : decode prog_8_method_14_code 69 = .ok (.aload_n 0, 1) := by decide +kernel
theorem d16_70 : decode prog_8_method_14_code 70 = .ok (.getfield 26, 3) := by decide +kernel
theorem d16_73 : decode prog_8_method_14_code 73 = .ok (.iload_n 3, 1) := by decide +kernel
theorem d16_74 : decode prog_8_method_14_code 74 = .ok (.baload, 1) := by decide +kernel
theorem d16_75 : decode prog_8_method_14_code 75 = .ok (.ifCond .ne 13, 3) := by decide +kernel
theorem d16_78 : decode prog_8_method_14_code 78 = .ok (.aload_n 0, 1) := by decide +kernel
theorem d16_79 : decode prog_8_method_14_code 79 = .ok (.getfield 26, 3) := by decide +kernel
theorem d16_82 : decode prog_8_method_14_code 82 = .ok (.iload 4, 2) := by decide +kernel
theorem d16_84 : decode prog_8_method_14_code 84 = .ok (.baload, 1) := by decide +kernel
theorem d16_85 : decode prog_8_method_14_code 85 = .ok (.ifCond .eq 7, 3) := by decide +kernel
theorem d16_88 : decode prog_8_method_14_code 88 = .ok (.iconst 1, 1) := by decide +kernel
theorem d16_89 : decode prog_8_method_14_code 89 = .ok (.goto 4, 3) := by decide +kernel
theorem d16_92 : decode prog_8_method_14_code 92 = .ok (.iconst 0, 1) := by decide +kernel
theorem d16_93 : decode prog_8_method_14_code 93 = .ok (.bastore, 1) := by decide +kernel
theorem d16_94 : decode prog_8_method_14_code 94 = .ok (.return_, 1) := by decide +kernel
theorem pd_16 : parseMethodDescriptor "(II)V" = some ⟨[.int, .int], none⟩ := by decide +kernel
abbrev own_R16 : Room := { frames := 1, cells := 0, slots := 0, locals := 14 }
def f16_93 (A : AH) (s0 : Int32) (s1 : Int32) (r2 : Nat) : Option (AH) :=
  (h_aset A 4 r2 s1 (.int (nar .boolean s0))).bind fun A1 =>
  some A1
set_option maxRecDepth 65536 in
set_option maxHeartbeats 4000000 in
theorem w16_93 (K : Cx p l e own_R16 s m meth c Z a0 tables_1 "com/example/thabiti/thabiti/core/Bindings" "join" prog_8_method_14_code 5 none) (sep : ∀ t, Sep Z (own_D t).2) (X : On p l e own_R16 s m args below meth c own_D Z n0 T A cells slots) (o0 : Nat) (i1 : Int32) (i2 : Int32) (i3 : Int32) (i4 : Int32) (s0 : Int32) (s1 : Int32) (r2 : Nat) (hc : cells + 0 ≤ 0) (hs : slots + 0 ≤ 0) {q : AH} (hf : f16_93 A s0 s1 r2 = some q) :
    Go p e below (T.setTop (mkF m 93 #[.val (.ref (n0 + o0)), .val (.int i1), .val (.int i2), .val (.int i3), .val (.int i4)] [(.int s0), (.int s1), (.ref (n0 + r2))])) (Fini own_D Z n0 s own_R16 none q) := by
  unfold f16_93 at hf
  obtain ⟨A1, g1, hf⟩ := bs hf
  refine ast4 (pc' := 94) K X g1 d16_93 rfl (fun T1 X1 => ?_)
  cases hf
  exact retV K X1 (show cells ≤ 0 by omega) (show slots ≤ 0 by omega) d16_94
def f16_88 (A : AH) (s0 : Int32) (r1 : Nat) : Option (AH) :=
  f16_93 A (1 : Int32) s0 r1
set_option maxRecDepth 65536 in
set_option maxHeartbeats 4000000 in
theorem w16_88 (K : Cx p l e own_R16 s m meth c Z a0 tables_1 "com/example/thabiti/thabiti/core/Bindings" "join" prog_8_method_14_code 5 none) (sep : ∀ t, Sep Z (own_D t).2) (X : On p l e own_R16 s m args below meth c own_D Z n0 T A cells slots) (o0 : Nat) (i1 : Int32) (i2 : Int32) (i3 : Int32) (i4 : Int32) (s0 : Int32) (r1 : Nat) (hc : cells + 0 ≤ 0) (hs : slots + 0 ≤ 0) {q : AH} (hf : f16_88 A s0 r1 = some q) :
    Go p e below (T.setTop (mkF m 88 #[.val (.ref (n0 + o0)), .val (.int i1), .val (.int i2), .val (.int i3), .val (.int i4)] [(.int s0), (.ref (n0 + r1))])) (Fini own_D Z n0 s own_R16 none q) := by
  unfold f16_88 at hf
  refine i_iconst (pc' := 89) (v := (1 : Int32)) K X d16_88 rfl rfl ?_
  refine i_goto (pc' := 93) K X d16_89 (by decide) (by decide) ?_
  exact w16_93 K sep X o0 i1 i2 i3 i4 (1 : Int32) s0 r1 (show cells + 0 ≤ 0 by omega) (show slots + 0 ≤ 0 by omega) hf
def f16_84 (A : AH) (s0 : Int32) (r1 : Nat) (s2 : Int32) (r3 : Nat) : Option (AH) :=
  (asI (h_aget A 4 r1 s0)).bind fun v1 =>
  if v1 = (0 : Int32) then (f16_93 A (0 : Int32) s2 r3)
  else (f16_88 A s2 r3)
set_option maxRecDepth 65536 in
set_option maxHeartbeats 4000000 in
theorem w16_84 (K : Cx p l e own_R16 s m meth c Z a0 tables_1 "com/example/thabiti/thabiti/core/Bindings" "join" prog_8_method_14_code 5 none) (sep : ∀ t, Sep Z (own_D t).2) (X : On p l e own_R16 s m args below meth c own_D Z n0 T A cells slots) (o0 : Nat) (i1 : Int32) (i2 : Int32) (i3 : Int32) (i4 : Int32) (s0 : Int32) (r1 : Nat) (s2 : Int32) (r3 : Nat) (hc : cells + 0 ≤ 0) (hs : slots + 0 ≤ 0) {q : AH} (hf : f16_84 A s0 r1 s2 r3 = some q) :
    Go p e below (T.setTop (mkF m 84 #[.val (.ref (n0 + o0)), .val (.int i1), .val (.int i2), .val (.int i3), .val (.int i4)] [(.int s0), (.ref (n0 + r1)), (.int s2), (.ref (n0 + r3))])) (Fini own_D Z n0 s own_R16 none q) := by
  unfold f16_84 at hf
  obtain ⟨v1, g1, hf⟩ := bs hf
  refine ld4 (pc' := 85) K X g1 d16_84 rfl ?_
  by_cases hc85 : v1 = (0 : Int32)
  · rw [if_pos hc85] at hf
    refine i_ifYes (pc' := 92) K X d16_85 (teq hc85).1 (by decide) (by decide) ?_
    refine i_iconst (pc' := 93) (v := (0 : Int32)) K X d16_92 rfl rfl ?_
    exact w16_93 K sep X o0 i1 i2 i3 i4 (0 : Int32) s2 r3 (show cells + 0 ≤ 0 by omega) (show slots + 0 ≤ 0 by omega) hf
  · rw [if_neg hc85] at hf
    refine i_ifNo (pc' := 88) K X d16_85 rfl (feq hc85).1 ?_
    exact w16_88 K sep X o0 i1 i2 i3 i4 s2 r3 (show cells + 0 ≤ 0 by omega) (show slots + 0 ≤ 0 by omega) hf
def f16_56 (A : AH) (o0 : Nat) (i3 : Int32) (i4 : Int32) (r0 : Nat) (s1 : Int32) (s2 : Int32) (r3 : Nat) : Option (AH) :=
  (asR (h_fget A 10 r0 3)).bind fun v1 =>
  (asI (h_aget A 0 v1 i4)).bind fun v2 =>
  (h_aset A 0 r3 s2 (.int (s1 + v2))).bind fun A3 =>
  (asR (h_fget A3 10 o0 5)).bind fun v4 =>
  (asR (h_fget A3 10 o0 5)).bind fun v5 =>
  (asI (h_aget A3 4 v5 i3)).bind fun v6 =>
  if v6 = (0 : Int32) then ((asR (h_fget A3 10 o0 5)).bind fun v7 =>
  f16_84 A3 i4 v7 i3 v4)
  else (f16_88 A3 i3 v4)
set_option maxRecDepth 65536 in
set_option maxHeartbeats 4000000 in
theorem w16_56 (K : Cx p l e own_R16 s m meth c Z a0 tables_1 "com/example/thabiti/thabiti/core/Bindings" "join" prog_8_method_14_code 5 none) (sep : ∀ t, Sep Z (own_D t).2) (X : On p l e own_R16 s m args below meth c own_D Z n0 T A cells slots) (o0 : Nat) (i1 : Int32) (i2 : Int32) (i3 : Int32) (i4 : Int32) (r0 : Nat) (s1 : Int32) (s2 : Int32) (r3 : Nat) (hc : cells + 0 ≤ 0) (hs : slots + 0 ≤ 0) {q : AH} (hf : f16_56 A o0 i3 i4 r0 s1 s2 r3 = some q) :
    Go p e below (T.setTop (mkF m 56 #[.val (.ref (n0 + o0)), .val (.int i1), .val (.int i2), .val (.int i3), .val (.int i4)] [(.ref (n0 + r0)), (.int s1), (.int s2), (.ref (n0 + r3))])) (Fini own_D Z n0 s own_R16 none q) := by
  unfold f16_56 at hf
  obtain ⟨v1, g1, hf⟩ := bs hf
  refine getfR (pc' := 59) K X (i := 16) rfl d16_56 (t := 10) (f := 3) (by decide) rfl g1 rfl (fun T1 X1 => ?_)
  refine i_iload (pc' := 61) K X1 d16_59 rfl rfl ?_
  obtain ⟨v2, g2, hf⟩ := bs hf
  refine ld0 (pc' := 62) K X1 g2 d16_61 rfl ?_
  refine i_iadd (pc' := 63) K X1 d16_62 rfl ?_
  obtain ⟨A3, g3, hf⟩ := bs hf
  refine ast0 (pc' := 64) K X1 g3 d16_63 rfl (fun T3 X3 => ?_)
  refine i_aloadN (pc' := 65) K X3 d16_64 rfl rfl rfl ?_
  obtain ⟨v4, g4, hf⟩ := bs hf
  refine getfR (pc' := 68) K X3 (i := 21) rfl d16_65 (t := 10) (f := 5) (by decide) rfl g4 rfl (fun T4 X4 => ?_)
  refine i_iloadN (pc' := 69) K X4 d16_68 rfl rfl ?_
  refine i_aloadN (pc' := 70) K X4 d16_69 rfl rfl rfl ?_
  obtain ⟨v5, g5, hf⟩ := bs hf
  refine getfR (pc' := 73) K X4 (i := 21) rfl d16_70 (t := 10) (f := 5) (by decide) rfl g5 rfl (fun T5 X5 => ?_)
  refine i_iloadN (pc' := 74) K X5 d16_73 rfl rfl ?_
  obtain ⟨v6, g6, hf⟩ := bs hf
  refine ld4 (pc' := 75) K X5 g6 d16_74 rfl ?_
  by_cases hc75 : v6 = (0 : Int32)
  · rw [if_pos hc75] at hf
    refine i_ifNo (pc' := 78) K X5 d16_75 rfl (teq hc75).2 ?_
    refine i_aloadN (pc' := 79) K X5 d16_78 rfl rfl rfl ?_
    obtain ⟨v7, g7, hf⟩ := bs hf
    refine getfR (pc' := 82) K X5 (i := 21) rfl d16_79 (t := 10) (f := 5) (by decide) rfl g7 rfl (fun T7 X7 => ?_)
    refine i_iload (pc' := 84) K X7 d16_82 rfl rfl ?_
    exact w16_84 K sep X7 o0 i1 i2 i3 i4 i4 v7 i3 v4 (show cells + 0 ≤ 0 by omega) (show slots + 0 ≤ 0 by omega) hf
  · rw [if_neg hc75] at hf
    refine i_ifYes (pc' := 88) K X5 d16_75 (feq hc75).2 (by decide) (by decide) ?_
    exact w16_88 K sep X5 o0 i1 i2 i3 i4 i3 v4 (show cells + 0 ≤ 0 by omega) (show slots + 0 ≤ 0 by omega) hf
def f16_31 (A : AH) (o0 : Nat) (i3 : Int32) (s0 : Int32) : Option (AH) :=
  (h_isA A 10 o0).bind fun y2 =>
  (f14_0 A o0 i3 s0).bind fun A1 =>
  (asR (h_fget A1 10 o0 2)).bind fun v3 =>
  (h_aset A1 0 v3 s0 (.int i3)).bind fun A4 =>
  (asR (h_fget A4 10 o0 3)).bind fun v5 =>
  (asI (h_aget A4 0 v5 i3)).bind fun v6 =>
  f16_56 A4 o0 i3 s0 o0 v6 i3 v5
set_option maxRecDepth 65536 in
set_option maxHeartbeats 4000000 in
theorem w16_31 (K : Cx p l e own_R16 s m meth c Z a0 tables_1 "com/example/thabiti/thabiti/core/Bindings" "join" prog_8_method_14_code 5 none) (sep : ∀ t, Sep Z (own_D t).2) (X : On p l e own_R16 s m args below meth c own_D Z n0 T A cells slots) (o0 : Nat) (i1 : Int32) (i2 : Int32) (i3 : Int32) (s0 : Int32) (hc : cells + 0 ≤ 0) (hs : slots + 0 ≤ 0) {q : AH} (hf : f16_31 A o0 i3 s0 = some q) :
    Go p e below (T.setTop (mkF m 31 #[.val (.ref (n0 + o0)), .val (.int i1), .val (.int i2), .val (.int i3), .unset] [(.int s0)])) (Fini own_D Z n0 s own_R16 none q) := by
  unfold f16_31 at hf
  refine i_istore (pc' := 33) (Ls' := #[.val (.ref (n0 + o0)), .val (.int i1), .val (.int i2), .val (.int i3), .val (.int s0)]) K X d16_31 rfl rfl ?_
  refine i_aloadN (pc' := 34) K X d16_33 rfl rfl rfl ?_
  refine i_iloadN (pc' := 35) K X d16_34 rfl rfl ?_
  refine i_iload (pc' := 37) K X d16_35 rfl rfl ?_
  obtain ⟨y2, g2, hf⟩ := bs hf
  obtain ⟨A1, g1, hf⟩ := bs hf
  refine callp (pc' := 40) (kc := cells) (ks := slots) (S' := []) (st := []) K X (i1 := 77) rfl (i2 := 79) rfl (i5 := 1) (t := 10) rfl (i6 := 78) rfl (i3 := 2) rfl (i4 := 80) rfl (by decide) (by decide) g2 (rm14 (l := l) (n0 := n0) (K.2.2.2.2.2.2.2.2) A o0 i3 s0 g1) pd_14 rfl d16_37 rfl rfl (by decide) (w := 0) (Nat.le_of_eq rfl) (by decide) (show cells + 0 ≤ 0 by omega) (show slots + 0 ≤ 0 by omega) rfl rfl rfl rfl (fun T1 X1 => ?_)
  refine i_aloadN (pc' := 41) K X1 d16_40 rfl rfl rfl ?_
  obtain ⟨v3, g3, hf⟩ := bs hf
  refine getfR (pc' := 44) K X1 (i := 14) rfl d16_41 (t := 10) (f := 2) (by decide) rfl g3 rfl (fun T3 X3 => ?_)
  refine i_iload (pc' := 46) K X3 d16_44 rfl rfl ?_
  refine i_iloadN (pc' := 47) K X3 d16_46 rfl rfl ?_
  obtain ⟨A4, g4, hf⟩ := bs hf
  refine ast0 (pc' := 48) K X3 g4 d16_47 rfl (fun T4 X4 => ?_)
  refine i_aloadN (pc' := 49) K X4 d16_48 rfl rfl rfl ?_
  obtain ⟨v5, g5, hf⟩ := bs hf
  refine getfR (pc' := 52) K X4 (i := 16) rfl d16_49 (t := 10) (f := 3) (by decide) rfl g5 rfl (fun T5 X5 => ?_)
  refine i_iloadN (pc' := 53) K X5 d16_52 rfl rfl ?_
  refine i_dup2 (pc' := 54) K X5 d16_53 rfl rfl rfl ?_
  obtain ⟨v6, g6, hf⟩ := bs hf
  refine ld0 (pc' := 55) K X5 g6 d16_54 rfl ?_
  refine i_aloadN (pc' := 56) K X5 d16_55 rfl rfl rfl ?_
  exact w16_56 K sep X5 o0 i1 i2 i3 s0 o0 v6 i3 v5 (show cells + 0 ≤ 0 by omega) (show slots + 0 ≤ 0 by omega) hf
def f16_20 (A : AH) (o0 : Nat) (i1 : Int32) (i2 : Int32) (s0 : Int32) : Option (AH) :=
  if s0 = i1 then (f16_31 A o0 s0 i2)
  else (f16_31 A o0 s0 i1)
set_option maxRecDepth 65536 in
set_option maxHeartbeats 4000000 in
theorem w16_20 (K : Cx p l e own_R16 s m meth c Z a0 tables_1 "com/example/thabiti/thabiti/core/Bindings" "join" prog_8_method_14_code 5 none) (sep : ∀ t, Sep Z (own_D t).2) (X : On p l e own_R16 s m args below meth c own_D Z n0 T A cells slots) (o0 : Nat) (i1 : Int32) (i2 : Int32) (s0 : Int32) (hc : cells + 0 ≤ 0) (hs : slots + 0 ≤ 0) {q : AH} (hf : f16_20 A o0 i1 i2 s0 = some q) :
    Go p e below (T.setTop (mkF m 20 #[.val (.ref (n0 + o0)), .val (.int i1), .val (.int i2), .unset, .unset] [(.int s0)])) (Fini own_D Z n0 s own_R16 none q) := by
  unfold f16_20 at hf
  refine i_istoreN (pc' := 21) (Ls' := #[.val (.ref (n0 + o0)), .val (.int i1), .val (.int i2), .val (.int s0), .unset]) K X d16_20 rfl rfl ?_
  refine i_iloadN (pc' := 22) K X d16_21 rfl rfl ?_
  refine i_iloadN (pc' := 23) K X d16_22 rfl rfl ?_
  by_cases hc23 : s0 = i1
  · rw [if_pos hc23] at hf
    refine i_icmpNo (pc' := 26) K X d16_23 rfl (teq hc23).2 ?_
    refine i_iloadN (pc' := 27) K X d16_26 rfl rfl ?_
    refine i_goto (pc' := 31) K X d16_27 (by decide) (by decide) ?_
    exact w16_31 K sep X o0 i1 i2 s0 i2 (show cells + 0 ≤ 0 by omega) (show slots + 0 ≤ 0 by omega) hf
  · rw [if_neg hc23] at hf
    refine i_icmpYes (pc' := 30) K X d16_23 (feq hc23).2 (by decide) (by decide) ?_
    refine i_iloadN (pc' := 31) K X d16_30 rfl rfl ?_
    exact w16_31 K sep X o0 i1 i2 s0 i1 (show cells + 0 ≤ 0 by omega) (show slots + 0 ≤ 0 by omega) hf
def f16_0 (A : AH) (o0 : Nat) (i1 : Int32) (i2 : Int32) : Option (AH) :=
  (asR (h_fget A 10 o0 3)).bind fun v1 =>
  (asI (h_aget A 0 v1 i1)).bind fun v2 =>
  (asR (h_fget A 10 o0 3)).bind fun v3 =>
  (asI (h_aget A 0 v3 i2)).bind fun v4 =>
  if v2 < v4 then (f16_20 A o0 i1 i2 i2)
  else (f16_20 A o0 i1 i2 i1)
set_option maxRecDepth 65536 in
set_option maxHeartbeats 4000000 in
theorem w16_0 (K : Cx p l e own_R16 s m meth c Z a0 tables_1 "com/example/thabiti/thabiti/core/Bindings" "join" prog_8_method_14_code 5 none) (sep : ∀ t, Sep Z (own_D t).2) (X : On p l e own_R16 s m args below meth c own_D Z n0 T A cells slots) (o0 : Nat) (i1 : Int32) (i2 : Int32) (hc : cells + 0 ≤ 0) (hs : slots + 0 ≤ 0) {q : AH} (hf : f16_0 A o0 i1 i2 = some q) :
    Go p e below (T.setTop (mkF m 0 #[.val (.ref (n0 + o0)), .val (.int i1), .val (.int i2), .unset, .unset] [])) (Fini own_D Z n0 s own_R16 none q) := by
  unfold f16_0 at hf
  refine i_aloadN (pc' := 1) K X d16_0 rfl rfl rfl ?_
  obtain ⟨v1, g1, hf⟩ := bs hf
  refine getfR (pc' := 4) K X (i := 16) rfl d16_1 (t := 10) (f := 3) (by decide) rfl g1 rfl (fun T1 X1 => ?_)
  refine i_iloadN (pc' := 5) K X1 d16_4 rfl rfl ?_
  obtain ⟨v2, g2, hf⟩ := bs hf
  refine ld0 (pc' := 6) K X1 g2 d16_5 rfl ?_
  refine i_aloadN (pc' := 7) K X1 d16_6 rfl rfl rfl ?_
  obtain ⟨v3, g3, hf⟩ := bs hf
  refine getfR (pc' := 10) K X1 (i := 16) rfl d16_7 (t := 10) (f := 3) (by decide) rfl g3 rfl (fun T3 X3 => ?_)
  refine i_iloadN (pc' := 11) K X3 d16_10 rfl rfl ?_
  obtain ⟨v4, g4, hf⟩ := bs hf
  refine ld0 (pc' := 12) K X3 g4 d16_11 rfl ?_
  by_cases hc12 : v2 < v4
  · rw [if_pos hc12] at hf
    refine i_icmpYes (pc' := 19) K X3 d16_12 (tlt hc12).1 (by decide) (by decide) ?_
    refine i_iloadN (pc' := 20) K X3 d16_19 rfl rfl ?_
    exact w16_20 K sep X3 o0 i1 i2 i2 (show cells + 0 ≤ 0 by omega) (show slots + 0 ≤ 0 by omega) hf
  · rw [if_neg hc12] at hf
    refine i_icmpNo (pc' := 15) K X3 d16_12 rfl (flt hc12).1 ?_
    refine i_iloadN (pc' := 16) K X3 d16_15 rfl rfl ?_
    refine i_goto (pc' := 20) K X3 d16_16 (by decide) (by decide) ?_
    exact w16_20 K sep X3 o0 i1 i2 i1 (show cells + 0 ≤ 0 by omega) (show slots + 0 ≤ 0 by omega) hf
theorem pn_16 : plainName "com/example/thabiti/thabiti/core/Bindings" = true := by first | (simp [plainName, overriddenIn]; done) | decide +kernel
theorem rm16 {l : Launch} {Z : State} {a0 : Array Value} {n0 : Nat} (hw : ∀ d ∈ tables_1, d.before a0 Z = true) (A : AH) (o0 : Nat) (i1 : Int32) (i2 : Int32) {q : AH} (hf : f16_0 A o0 i1 i2 = some q) :
    Met l own_D Z n0 (⟨"com/example/thabiti/thabiti/core/Bindings", "join", "(II)V"⟩ : MethodName) prog_8_method_14_code 5 none own_R16 [(.ref (n0 + o0)), (.int i1), (.int i2)] A none q :=
  met (W := tables_1) (a0 := a0) (own := "com/example/thabiti/thabiti/core/Bindings") (nm := "join") (L0 := #[.val (.ref (n0 + o0)), .val (.int i1), .val (.int i2), .unset, .unset]) (plainFor_of_name pn_16) hw rfl rfl (fun m => by first | (simp [entryFrame, mkF, argsToLocals, Value.category]; done) | rfl) (fun p e s m below meth c T K X => w16_0 K (own_sep hw) X o0 i1 i2 (show 0 + 0 ≤ 0 by decide) (show 0 + 0 ≤ 0 by decide) hf)
/-! body 7: Bindings.unify(II)Z -/
theorem d7_0 : decode prog_8_method_10_code 0 = .ok (.aload_n 0, 1) := by decide +kernel
theorem d7_1 : decode prog_8_method_10_code 1 = .ok (.iload_n 1, 1) := by decide +kernel
theorem d7_2 : decode prog_8_method_10_code 2 = .ok (.invokevirtual 40, 3) := by decide +kernel
theorem d7_5 : decode prog_8_method_10_code 5 = .ok (.istore_n 3, 1) := by decide +kernel
theorem d7_6 : decode prog_8_method_10_code 6 = .ok (.aload_n 0, 1) := by decide +kernel
theorem d7_7 : decode prog_8_method_10_code 7 = .ok (.iload_n 2, 1) := by decide +kernel
theorem d7_8 : decode prog_8_method_10_code 8 = .ok (.invokevirtual 40, 3) := by decide +kernel
theorem d7_11 : decode prog_8_method_10_code 11 = .ok (.istore 4, 2) := by decide +kernel
theorem d7_13 : decode prog_8_method_10_code 13 = .ok (.iload_n 3, 1) := by decide +kernel
theorem d7_14 : decode prog_8_method_10_code 14 = .ok (.iload 4, 2) := by decide +kernel
theorem d7_16 : decode prog_8_method_10_code 16 = .ok (.if_icmp .ne 9, 3) := by decide +kernel
theorem d7_19 : decode prog_8_method_10_code 19 = .ok (.iconst 1, 1) := by decide +kernel
theorem d7_20 : decode prog_8_method_10_code 20 = .ok (.istore 5, 2) := by decide +kernel
theorem d7_22 : decode prog_8_method_10_code 22 = .ok (.goto 67, 3) := by decide +kernel
theorem d7_25 : decode prog_8_method_10_code 25 = .ok (.iload_n 3, 1) := by decide +kernel
theorem d7_26 : decode prog_8_method_10_code 26 = .ok (.ifCond .ge 14, 3) := by decide +kernel
theorem d7_29 : decode prog_8_method_10_code 29 = .ok (.iload 4, 2) := by decide +kernel
theorem d7_31 : decode prog_8_method_10_code 31 = .ok (.ifCond .ge 9, 3) := by decide +kernel
theorem d7_34 : decode prog_8_method_10_code 34 = .ok (.iconst 0, 1) := by decide +kernel
theorem d7_35 : decode prog_8_method_10_code 35 = .ok (.istore 5, 2) := by decide +kernel
theorem d7_37 : decode prog_8_method_10_code 37 = .ok (.goto 52, 3) := by decide +kernel
theorem d7_40 : decode prog_8_method_10_code 40 = .ok (.iload_n 3, 1) := by decide +kernel
theorem d7_41 : decode prog_8_method_10_code 41 = .ok (.ifCond .ge 18, 3) := by decide +kernel
theorem d7_44 : decode prog_8_method_10_code 44 = .ok (.aload_n 0, 1) := by decide +kernel
theorem d7_45 : decode prog_8_method_10_code 45 = .ok (.iload 4, 2) := by decide +kernel
theorem d7_47 : decode prog_8_method_10_code 47 = .ok (.iload_n 3, 1) := by decide +kernel
theorem d7_48 : decode prog_8_method_10_code 48 = .ok (.invokestatic 37, 3) := by decide +kernel
theorem d7_51 : decode prog_8_method_10_code 51 = .ok (.invokevirtual 45, 3) := by decide +kernel
theorem d7_54 : decode prog_8_method_10_code 54 = .ok (.istore 5, 2) := by decide +kernel
theorem d7_56 : decode prog_8_method_10_code 56 = .ok (.goto 33, 3) := by decide +kernel
theorem d7_59 : decode prog_8_method_10_code 59 = .ok (.iload 4, 2) := by decide +kernel
theorem d7_61 : decode prog_8_method_10_code 61 = .ok (.ifCond .ge 18, 3) := by decide +kernel
theorem d7_64 : decode prog_8_method_10_code 64 = .ok (.aload_n 0, 1) := by decide +kernel
theorem d7_65 : decode prog_8_method_10_code 65 = .ok (.iload_n 3, 1) := by decide +kernel
theorem d7_66 : decode prog_8_method_10_code 66 = .ok (.iload 4, 2) := by decide +kernel
theorem d7_68 : decode prog_8_method_10_code 68 = .ok (.invokestatic 37, 3) := by decide +kernel
theorem d7_71 : decode prog_8_method_10_code 71 = .ok (.invokevirtual 45, 3) := by decide +kernel
theorem d7_74 : decode prog_8_method_10_code 74 = .ok (.istore 5, 2) := by decide +kernel
theorem d7_76 : decode prog_8_method_10_code 76 = .ok (.goto 13, 3) := by decide +kernel
theorem d7_79 : decode prog_8_method_10_code 79 = .ok (.aload_n 0, 1) := by decide +kernel
theorem d7_80 : decode prog_8_method_10_code 80 = .ok (.iload_n 3, 1) := by decide +kernel
theorem d7_81 : decode prog_8_method_10_code 81 = .ok (.iload 4, 2) := by decide +kernel
theorem d7_83 : decode prog_8_method_10_code 83 = .ok (.invokevirtual 49, 3) := by decide +kernel
theorem d7_86 : decode prog_8_method_10_code 86 = .ok (.iconst 1, 1) := by decide +kernel
theorem d7_87 : decode prog_8_method_10_code 87 = .ok (.istore 5, 2) := by decide +kernel
theorem d7_89 : decode prog_8_method_10_code 89 = .ok (.iload 5, 2) := by decide +kernel
theorem d7_91 : decode prog_8_method_10_code 91 = .ok (.ireturn, 1) := by decide +kernel
theorem pd_7 : parseMethodDescriptor "(II)Z" = some ⟨[.int, .int], some .boolean⟩ := by decide +kernel
abbrev own_R7 : Room := { frames := 2, cells := 0, slots := 0, locals := 30 }
def f7_89 (A : AH) (i5 : Int32) : Option (Int32 × AH) :=
  some ((nar .boolean i5), A)
set_option maxRecDepth 65536 in
set_option maxHeartbeats 4000000 in
theorem w7_89 (K : Cx p l e own_R7 s m meth c Z a0 tables_1 "com/example/thabiti/thabiti/core/Bindings" "unify" prog_8_method_10_code 6 (some .boolean)) (sep : ∀ t, Sep Z (own_D t).2) (X : On p l e own_R7 s m args below meth c own_D Z n0 T A cells slots) (o0 : Nat) (i1 : Int32) (i2 : Int32) (i3 : Int32) (i4 : Int32) (i5 : Int32) (hc : cells + 0 ≤ 0) (hs : slots + 0 ≤ 0) {q : Int32 × AH} (hf : f7_89 A i5 = some q) :
    Go p e below (T.setTop (mkF m 89 #[.val (.ref (n0 + o0)), .val (.int i1), .val (.int i2), .val (.int i3), .val (.int i4), .val (.int i5)] [])) (Fini own_D Z n0 s own_R7 (some (.int q.1)) q.2) := by
  unfold f7_89 at hf
  refine i_iload (pc' := 91) K X d7_89 rfl rfl ?_
  cases hf
  exact retB K (by simp) X (show cells ≤ 0 by omega) (show slots ≤ 0 by omega) d7_91
def f7_40 (A : AH) (o0 : Nat) (i3 : Int32) (i4 : Int32) : Option (Int32 × AH) :=
  if i3 < (0 : Int32) then ((h_isA A 10 o0).bind fun y8 =>
  (f13_0 A o0 i4 (f6_0 i3)).bind fun q7 =>
  f7_89 q7.2 q7.1)
  else (if i4 < (0 : Int32) then ((h_isA A 10 o0).bind fun y5 =>
  (f13_0 A o0 i3 (f6_0 i4)).bind fun q4 =>
  f7_89 q4.2 q4.1)
  else ((h_isA A 10 o0).bind fun y2 =>
  (f16_0 A o0 i3 i4).bind fun A1 =>
  f7_89 A1 (1 : Int32)))
set_option maxRecDepth 65536 in
set_option maxHeartbeats 4000000 in
theorem w7_40 (K : Cx p l e own_R7 s m meth c Z a0 tables_1 "com/example/thabiti/thabiti/core/Bindings" "unify" prog_8_method_10_code 6 (some .boolean)) (sep : ∀ t, Sep Z (own_D t).2) (X : On p l e own_R7 s m args below meth c own_D Z n0 T A cells slots) (o0 : Nat) (i1 : Int32) (i2 : Int32) (i3 : Int32) (i4 : Int32) (hc : cells + 0 ≤ 0) (hs : slots + 0 ≤ 0) {q : Int32 × AH} (hf : f7_40 A o0 i3 i4 = some q) :
    Go p e below (T.setTop (mkF m 40 #[.val (.ref (n0 + o0)), .val (.int i1), .val (.int i2), .val (.int i3), .val (.int i4), .unset] [])) (Fini own_D Z n0 s own_R7 (some (.int q.1)) q.2) := by
  unfold f7_40 at hf
  refine i_iloadN (pc' := 41) K X d7_40 rfl rfl ?_
  by_cases hc41 : i3 < (0 : Int32)
  · rw [if_pos hc41] at hf
    refine i_ifNo (pc' := 44) K X d7_41 rfl (tlt hc41).2.1 ?_
    refine i_aloadN (pc' := 45) K X d7_44 rfl rfl rfl ?_
    refine i_iload (pc' := 47) K X d7_45 rfl rfl ?_
    refine i_iloadN (pc' := 48) K X d7_47 rfl rfl ?_
    refine calls (pc' := 51) (kc := cells) (ks := slots) (S' := [(.int (f6_0 i3)), (.int i4), (.ref (n0 + o0))]) (st := [(.int i4), (.ref (n0 + o0))]) K X (i1 := 40) rfl (i2 := 41) rfl (i3 := 2) rfl (i4 := 42) rfl (by decide) (rm6 (l := l) (n0 := n0) (K.2.2.2.2.2.2.2.2) A i3) pd_6 rfl d7_48 rfl rfl (by decide) (w := 2) (Nat.le_of_eq rfl) (by decide) (show cells + 0 ≤ 0 by omega) (show slots + 0 ≤ 0 by omega) rfl rfl rfl rfl (fun T6 X6 => ?_)
    obtain ⟨y8, g8, hf⟩ := bs hf
    obtain ⟨q7, g7, hf⟩ := bs hf
    refine callp (pc' := 54) (kc := cells) (ks := slots) (S' := [(.int q7.1)]) (st := []) K X6 (i1 := 73) rfl (i2 := 75) rfl (i5 := 1) (t := 10) rfl (i6 := 74) rfl (i3 := 2) rfl (i4 := 76) rfl (by decide) (by decide) g8 (rm13 (l := l) (n0 := n0) (K.2.2.2.2.2.2.2.2) A o0 i4 (f6_0 i3) g7) pd_13 rfl d7_51 rfl rfl (by decide) (w := 0) (Nat.le_of_eq rfl) (by decide) (show cells + 0 ≤ 0 by omega) (show slots + 0 ≤ 0 by omega) rfl rfl rfl rfl (fun T7 X7 => ?_)
    refine i_istore (pc' := 56) (Ls' := #[.val (.ref (n0 + o0)), .val (.int i1), .val (.int i2), .val (.int i3), .val (.int i4), .val (.int q7.1)]) K X7 d7_54 rfl rfl ?_
    refine i_goto (pc' := 89) K X7 d7_56 (by decide) (by decide) ?_
    exact w7_89 K sep X7 o0 i1 i2 i3 i4 q7.1 (show cells + 0 ≤ 0 by omega) (show slots + 0 ≤ 0 by omega) hf
  · rw [if_neg hc41] at hf
    refine i_ifYes (pc' := 59) K X d7_41 (flt hc41).2.1 (by decide) (by decide) ?_
    refine i_iload (pc' := 61) K X d7_59 rfl rfl ?_
    by_cases hc61 : i4 < (0 : Int32)
    · rw [if_pos hc61] at hf
      refine i_ifNo (pc' := 64) K X d7_61 rfl (tlt hc61).2.1 ?_
      refine i_aloadN (pc' := 65) K X d7_64 rfl rfl rfl ?_
      refine i_iloadN (pc' := 66) K X d7_65 rfl rfl ?_
      refine i_iload (pc' := 68) K X d7_66 rfl rfl ?_
      refine calls (pc' := 71) (kc := cells) (ks := slots) (S' := [(.int (f6_0 i4)), (.int i3), (.ref (n0 + o0))]) (st := [(.int i3), (.ref (n0 + o0))]) K X (i1 := 40) rfl (i2 := 41) rfl (i3 := 2) rfl (i4 := 42) rfl (by decide) (rm6 (l := l) (n0 := n0) (K.2.2.2.2.2.2.2.2) A i4) pd_6 rfl d7_68 rfl rfl (by decide) (w := 2) (Nat.le_of_eq rfl) (by decide) (show cells + 0 ≤ 0 by omega) (show slots + 0 ≤ 0 by omega) rfl rfl rfl rfl (fun T3 X3 => ?_)
      obtain ⟨y5, g5, hf⟩ := bs hf
      obtain ⟨q4, g4, hf⟩ := bs hf
      refine callp (pc' := 74) (kc := cells) (ks := slots) (S' := [(.int q4.1)]) (st := []) K X3 (i1 := 73) rfl (i2 := 75) rfl (i5 := 1) (t := 10) rfl (i6 := 74) rfl (i3 := 2) rfl (i4 := 76) rfl (by decide) (by decide) g5 (rm13 (l := l) (n0 := n0) (K.2.2.2.2.2.2.2.2) A o0 i3 (f6_0 i4) g4) pd_13 rfl d7_71 rfl rfl (by decide) (w := 0) (Nat.le_of_eq rfl) (by decide) (show cells + 0 ≤ 0 by omega) (show slots + 0 ≤ 0 by omega) rfl rfl rfl rfl (fun T4 X4 => ?_)
      refine i_istore (pc' := 76) (Ls' := #[.val (.ref (n0 + o0)), .val (.int i1), .val (.int i2), .val (.int i3), .val (.int i4), .val (.int q4.1)]) K X4 d7_74 rfl rfl ?_
      refine i_goto (pc' := 89) K X4 d7_76 (by decide) (by decide) ?_
      exact w7_89 K sep X4 o0 i1 i2 i3 i4 q4.1 (show cells + 0 ≤ 0 by omega) (show slots + 0 ≤ 0 by omega) hf
    · rw [if_neg hc61] at hf
      refine i_ifYes (pc' := 79) K X d7_61 (flt hc61).2.1 (by decide) (by decide) ?_
      refine i_aloadN (pc' := 80) K X d7_79 rfl rfl rfl ?_
      refine i_iloadN (pc' := 81) K X d7_80 rfl rfl ?_
      refine i_iload (pc' := 83) K X d7_81 rfl rfl ?_
      obtain ⟨y2, g2, hf⟩ := bs hf
      obtain ⟨A1, g1, hf⟩ := bs hf
      refine callp (pc' := 86) (kc := cells) (ks := slots) (S' := []) (st := []) K X (i1 := 84) rfl (i2 := 86) rfl (i5 := 1) (t := 10) rfl (i6 := 85) rfl (i3 := 2) rfl (i4 := 87) rfl (by decide) (by decide) g2 (rm16 (l := l) (n0 := n0) (K.2.2.2.2.2.2.2.2) A o0 i3 i4 g1) pd_16 rfl d7_83 rfl rfl (by decide) (w := 0) (Nat.le_of_eq rfl) (by decide) (show cells + 0 ≤ 0 by omega) (show slots + 0 ≤ 0 by omega) rfl rfl rfl rfl (fun T1 X1 => ?_)
      refine i_iconst (pc' := 87) (v := (1 : Int32)) K X1 d7_86 rfl rfl ?_
      refine i_istore (pc' := 89) (Ls' := #[.val (.ref (n0 + o0)), .val (.int i1), .val (.int i2), .val (.int i3), .val (.int i4), .val (.int (1 : Int32))]) K X1 d7_87 rfl rfl ?_
      exact w7_89 K sep X1 o0 i1 i2 i3 i4 (1 : Int32) (show cells + 0 ≤ 0 by omega) (show slots + 0 ≤ 0 by omega) hf
def f7_35 (A : AH) (s0 : Int32) : Option (Int32 × AH) :=
  f7_89 A s0
set_option maxRecDepth 65536 in
set_option maxHeartbeats 4000000 in
theorem w7_35 (K : Cx p l e own_R7 s m meth c Z a0 tables_1 "com/example/thabiti/thabiti/core/Bindings" "unify" prog_8_method_10_code 6 (some .boolean)) (sep : ∀ t, Sep Z (own_D t).2) (X : On p l e own_R7 s m args below meth c own_D Z n0 T A cells slots) (o0 : Nat) (i1 : Int32) (i2 : Int32) (i3 : Int32) (i4 : Int32) (s0 : Int32) (hc : cells + 0 ≤ 0) (hs : slots + 0 ≤ 0) {q : Int32 × AH} (hf : f7_35 A s0 = some q) :
    Go p e below (T.setTop (mkF m 35 #[.val (.ref (n0 + o0)), .val (.int i1), .val (.int i2), .val (.int i3), .val (.int i4), .unset] [(.int s0)])) (Fini own_D Z n0 s own_R7 (some (.int q.1)) q.2) := by
  unfold f7_35 at hf
  refine i_istore (pc' := 37) (Ls' := #[.val (.ref (n0 + o0)), .val (.int i1), .val (.int i2), .val (.int i3), .val (.int i4), .val (.int s0)]) K X d7_35 rfl rfl ?_
  refine i_goto (pc' := 89) K X d7_37 (by decide) (by decide) ?_
  exact w7_89 K sep X o0 i1 i2 i3 i4 s0 (show cells + 0 ≤ 0 by omega) (show slots + 0 ≤ 0 by omega) hf
def f7_0 (A : AH) (o0 : Nat) (i1 : Int32) (i2 : Int32) : Option (Int32 × AH) :=
  (h_isA A 10 o0).bind fun y2 =>
  (f5_0 A o0 i1).bind fun q1 =>
  (h_isA q1.2 10 o0).bind fun y4 =>
  (f5_0 q1.2 o0 i2).bind fun q3 =>
  if q1.1 = q3.1 then (f7_89 q3.2 (1 : Int32))
  else (if q1.1 < (0 : Int32) then (if q3.1 < (0 : Int32) then (f7_35 q3.2 (0 : Int32))
  else (f7_40 q3.2 o0 q1.1 q3.1))
  else (f7_40 q3.2 o0 q1.1 q3.1))
set_option maxRecDepth 65536 in
set_option maxHeartbeats 4000000 in
theorem w7_0 (K : Cx p l e own_R7 s m meth c Z a0 tables_1 "com/example/thabiti/thabiti/core/Bindings" "unify" prog_8_method_10_code 6 (some .boolean)) (sep : ∀ t, Sep Z (own_D t).2) (X : On p l e own_R7 s m args below meth c own_D Z n0 T A cells slots) (o0 : Nat) (i1 : Int32) (i2 : Int32) (hc : cells + 0 ≤ 0) (hs : slots + 0 ≤ 0) {q : Int32 × AH} (hf : f7_0 A o0 i1 i2 = some q) :
    Go p e below (T.setTop (mkF m 0 #[.val (.ref (n0 + o0)), .val (.int i1), .val (.int i2), .unset, .unset, .unset] [])) (Fini own_D Z n0 s own_R7 (some (.int q.1)) q.2) := by
  unfold f7_0 at hf
  refine i_aloadN (pc' := 1) K X d7_0 rfl rfl rfl ?_
  refine i_iloadN (pc' := 2) K X d7_1 rfl rfl ?_
  obtain ⟨y2, g2, hf⟩ := bs hf
  obtain ⟨q1, g1, hf⟩ := bs hf
  refine callv (pc' := 5) (kc := cells) (ks := slots) (S' := [(.int q1.1)]) (st := []) K X (i1 := 35) rfl (i2 := 36) rfl (i5 := 38) (t := 10) rfl (i6 := 37) rfl (i3 := 2) rfl (i4 := 39) rfl (by decide) (by decide) g2 (rm5 (l := l) (n0 := n0) (K.2.2.2.2.2.2.2.2) A o0 i1 g1) pd_5 rfl d7_2 rfl rfl (by decide) (w := 0) (Nat.le_of_eq rfl) (by decide) (show cells + 0 ≤ 0 by omega) (show slots + 0 ≤ 0 by omega) rfl rfl rfl rfl (fun T1 X1 => ?_)
  refine i_istoreN (pc' := 6) (Ls' := #[.val (.ref (n0 + o0)), .val (.int i1), .val (.int i2), .val (.int q1.1), .unset, .unset]) K X1 d7_5 rfl rfl ?_
  refine i_aloadN (pc' := 7) K X1 d7_6 rfl rfl rfl ?_
  refine i_iloadN (pc' := 8) K X1 d7_7 rfl rfl ?_
  obtain ⟨y4, g4, hf⟩ := bs hf
  obtain ⟨q3, g3, hf⟩ := bs hf
  refine callv (pc' := 11) (kc := cells) (ks := slots) (S' := [(.int q3.1)]) (st := []) K X1 (i1 := 35) rfl (i2 := 36) rfl (i5 := 38) (t := 10) rfl (i6 := 37) rfl (i3 := 2) rfl (i4 := 39) rfl (by decide) (by decide) g4 (rm5 (l := l) (n0 := n0) (K.2.2.2.2.2.2.2.2) q1.2 o0 i2 g3) pd_5 rfl d7_8 rfl rfl (by decide) (w := 0) (Nat.le_of_eq rfl) (by decide) (show cells + 0 ≤ 0 by omega) (show slots + 0 ≤ 0 by omega) rfl rfl rfl rfl (fun T3 X3 => ?_)
  refine i_istore (pc' := 13) (Ls' := #[.val (.ref (n0 + o0)), .val (.int i1), .val (.int i2), .val (.int q1.1), .val (.int q3.1), .unset]) K X3 d7_11 rfl rfl ?_
  refine i_iloadN (pc' := 14) K X3 d7_13 rfl rfl ?_
  refine i_iload (pc' := 16) K X3 d7_14 rfl rfl ?_
  by_cases hc16 : q1.1 = q3.1
  · rw [if_pos hc16] at hf
    refine i_icmpNo (pc' := 19) K X3 d7_16 rfl (teq hc16).2 ?_
    refine i_iconst (pc' := 20) (v := (1 : Int32)) K X3 d7_19 rfl rfl ?_
    refine i_istore (pc' := 22) (Ls' := #[.val (.ref (n0 + o0)), .val (.int i1), .val (.int i2), .val (.int q1.1), .val (.int q3.1), .val (.int (1 : Int32))]) K X3 d7_20 rfl rfl ?_
    refine i_goto (pc' := 89) K X3 d7_22 (by decide) (by decide) ?_
    exact w7_89 K sep X3 o0 i1 i2 q1.1 q3.1 (1 : Int32) (show cells + 0 ≤ 0 by omega) (show slots + 0 ≤ 0 by omega) hf
  · rw [if_neg hc16] at hf
    refine i_icmpYes (pc' := 25) K X3 d7_16 (feq hc16).2 (by decide) (by decide) ?_
    refine i_iloadN (pc' := 26) K X3 d7_25 rfl rfl ?_
    by_cases hc26 : q1.1 < (0 : Int32)
    · rw [if_pos hc26] at hf
      refine i_ifNo (pc' := 29) K X3 d7_26 rfl (tlt hc26).2.1 ?_
      refine i_iload (pc' := 31) K X3 d7_29 rfl rfl ?_
      by_cases hc31 : q3.1 < (0 : Int32)
      · rw [if_pos hc31] at hf
        refine i_ifNo (pc' := 34) K X3 d7_31 rfl (tlt hc31).2.1 ?_
        refine i_iconst (pc' := 35) (v := (0 : Int32)) K X3 d7_34 rfl rfl ?_
        exact w7_35 K sep X3 o0 i1 i2 q1.1 q3.1 (0 : Int32) (show cells + 0 ≤ 0 by omega) (show slots + 0 ≤ 0 by omega) hf
      · rw [if_neg hc31] at hf
        refine i_ifYes (pc' := 40) K X3 d7_31 (flt hc31).2.1 (by decide) (by decide) ?_
        exact w7_40 K sep X3 o0 i1 i2 q1.1 q3.1 (show cells + 0 ≤ 0 by omega) (show slots + 0 ≤ 0 by omega) hf
    · rw [if_neg hc26] at hf
      refine i_ifYes (pc' := 40) K X3 d7_26 (flt hc26).2.1 (by decide) (by decide) ?_
      exact w7_40 K sep X3 o0 i1 i2 q1.1 q3.1 (show cells + 0 ≤ 0 by omega) (show slots + 0 ≤ 0 by omega) hf
theorem pn_7 : plainName "com/example/thabiti/thabiti/core/Bindings" = true := by first | (simp [plainName, overriddenIn]; done) | decide +kernel
theorem rm7 {l : Launch} {Z : State} {a0 : Array Value} {n0 : Nat} (hw : ∀ d ∈ tables_1, d.before a0 Z = true) (A : AH) (o0 : Nat) (i1 : Int32) (i2 : Int32) {q : Int32 × AH} (hf : f7_0 A o0 i1 i2 = some q) :
    Met l own_D Z n0 (⟨"com/example/thabiti/thabiti/core/Bindings", "unify", "(II)Z"⟩ : MethodName) prog_8_method_10_code 6 (some .boolean) own_R7 [(.ref (n0 + o0)), (.int i1), (.int i2)] A (some (.int q.1)) q.2 :=
  met (W := tables_1) (a0 := a0) (own := "com/example/thabiti/thabiti/core/Bindings") (nm := "unify") (L0 := #[.val (.ref (n0 + o0)), .val (.int i1), .val (.int i2), .unset, .unset, .unset]) (plainFor_of_name pn_7) hw rfl rfl (fun m => by first | (simp [entryFrame, mkF, argsToLocals, Value.category]; done) | rfl) (fun p e s m below meth c T K X => w7_0 K (own_sep hw) X o0 i1 i2 (show 0 + 0 ≤ 0 by decide) (show 0 + 0 ≤ 0 by decide) hf)
/-! body 4: Bindings.requireConstant(I)Z -/
theorem d4_0 : decode prog_8_method_11_code 0 = .ok (.aload_n 0, 1) := by decide +kernel
theorem d4_1 : decode prog_8_method_11_code 1 = .ok (.iload_n 1, 1) := by decide +kernel
theorem d4_2 : decode prog_8_method_11_code 2 = .ok (.invokevirtual 40, 3) := by decide +kernel
theorem d4_5 : decode prog_8_method_11_code 5 = .ok (.istore_n 2, 1) := by decide +kernel
theorem d4_6 : decode prog_8_method_11_code 6 = .ok (.iload_n 2, 1) := by decide +kernel
theorem d4_7 : decode prog_8_method_11_code 7 = .ok (.ifCond .ge 23, 3) := by decide +kernel
theorem d4_10 : decode prog_8_method_11_code 10 = .ok (.iload_n 2, 1) := by decide +kernel
theorem d4_11 : decode prog_8_method_11_code 11 = .ok (.invokestatic 37, 3) := by decide +kernel
theorem d4_14 : decode prog_8_method_11_code 14 = .ok (.aload_n 0, 1) := by decide +kernel
theorem d4_15 : decode prog_8_method_11_code 15 = .ok (.getfield 13, 3) := by decide +kernel
theorem d4_18 : decode prog_8_method_11_code 18 = .ok (.if_icmp .ge 7, 3) := by decide +kernel
theorem d4_21 : decode prog_8_method_11_code 21 = .ok (.iconst 1, 1) := by decide +kernel
theorem d4_22 : decode prog_8_method_11_code 22 = .ok (.goto 4, 3) := by decide +kernel
theorem d4_25 : decode prog_8_method_11_code 25 = .ok (.iconst 0, 1) := by decide +kernel
theorem d4_26 : decode prog_8_method_11_code 26 = .ok (.istore_n 3, 1) := by decide +kernel
theorem d4_27 : decode prog_8_method_11_code 27 = .ok (.goto 27, 3) := by decide +kernel
theorem d4_30 : decode prog_8_method_11_code 30 = .ok (.aload_n 0, 1) := by decide +kernel
theorem d4_31 : decode prog_8_method_11_code 31 = .ok (.getfield 26, 3) := by decide +kernel
theorem d4_34 : decode prog_8_method_11_code 34 = .ok (.iload_n 2, 1) := by decide +kernel
theorem d4_35 : decode prog_8_method_11_code 35 = .ok (.baload, 1) := by decide +kernel
theorem d4_36 : decode prog_8_method_11_code 36 = .ok (.ifCond .ne 16, 3) := by decide +kernel
theorem d4_39 : decode prog_8_method_11_code 39 = .ok (.aload_n 0, 1) := by decide +kernel
theorem d4_40 : decode prog_8_method_11_code 40 = .ok (.iload_n 2, 1) := by decide +kernel
theorem d4_41 : decode prog_8_method_11_code 41 = .ok (.iconst (-1), 1) := by decide +kernel
theorem d4_42 : decode prog_8_method_11_code 42 = .ok (.invokevirtual 53, 3) := by decide +kernel
theorem d4_45 : decode prog_8_method_11_code 45 = .ok (.aload_n 0, 1) := by decide +kernel
theorem d4_46 : decode prog_8_method_11_code 46 = .ok (.getfield 26, 3) := by decide +kernel
theorem d4_49 : decode prog_8_method_11_code 49 = .ok (.iload_n 2, 1) := by decide +kernel
theorem d4_50 : decode prog_8_method_11_code 50 = .ok (.iconst 1, 1) := by decide +kernel
theorem d4_51 : decode prog_8_method_11_code 51 = .ok (.bastore, 1) := by decide +kernel
theorem d4_52 : decode prog_8_method_11_code 52 = .ok (.iconst 1, 1) := by decide +kernel
theorem d4_53 : decode prog_8_method_11_code 53 = .ok (.istore_n 3, 1) := by decide +kernel
theorem d4_54 : decode prog_8_method_11_code 54 = .ok (.iload_n 3, 1) := by decide +kernel
theorem d4_55 : decode prog_8_method_11_code 55 = .ok (.ireturn, 1) := by decide +kernel
theorem pd_4 : parseMethodDescriptor "(I)Z" = some ⟨[.int], some .boolean⟩ := by decide +kernel
abbrev own_R4 : Room := { frames := 2, cells := 0, slots := 0, locals := 29 }
def f4_54 (A : AH) (i3 : Int32) : Option (Int32 × AH) :=
  some ((nar .boolean i3), A)
set_option maxRecDepth 65536 in
set_option maxHeartbeats 4000000 in
theorem w4_54 (K : Cx p l e own_R4 s m meth c Z a0 tables_1 "com/example/thabiti/thabiti/core/Bindings" "requireConstant" prog_8_method_11_code 4 (some .boolean)) (sep : ∀ t, Sep Z (own_D t).2) (X : On p l e own_R4 s m args below meth c own_D Z n0 T A cells slots) (o0 : Nat) (i1 : Int32) (i2 : Int32) (i3 : Int32) (hc : cells + 0 ≤ 0) (hs : slots + 0 ≤ 0) {q : Int32 × AH} (hf : f4_54 A i3 = some q) :
    Go p e below (T.setTop (mkF m 54 #[.val (.ref (n0 + o0)), .val (.int i1), .val (.int i2), .val (.int i3)] [])) (Fini own_D Z n0 s own_R4 (some (.int q.1)) q.2) := by
  unfold f4_54 at hf
  refine i_iloadN (pc' := 55) K X d4_54 rfl rfl ?_
  cases hf
  exact retB K (by simp) X (show cells ≤ 0 by omega) (show slots ≤ 0 by omega) d4_55
def f4_52 (A : AH)  : Option (Int32 × AH) :=
  f4_54 A (1 : Int32)
set_option maxRecDepth 65536 in
set_option maxHeartbeats 4000000 in
theorem w4_52 (K : Cx p l e own_R4 s m meth c Z a0 tables_1 "com/example/thabiti/thabiti/core/Bindings" "requireConstant" prog_8_method_11_code 4 (some .boolean)) (sep : ∀ t, Sep Z (own_D t).2) (X : On p l e own_R4 s m args below meth c own_D Z n0 T A cells slots) (o0 : Nat) (i1 : Int32) (i2 : Int32) (hc : cells + 0 ≤ 0) (hs : slots + 0 ≤ 0) {q : Int32 × AH} (hf : f4_52 A  = some q) :
    Go p e below (T.setTop (mkF m 52 #[.val (.ref (n0 + o0)), .val (.int i1), .val (.int i2), .unset] [])) (Fini own_D Z n0 s own_R4 (some (.int q.1)) q.2) := by
  unfold f4_52 at hf
  refine i_iconst (pc' := 53) (v := (1 : Int32)) K X d4_52 rfl rfl ?_
  refine i_istoreN (pc' := 54) (Ls' := #[.val (.ref (n0 + o0)), .val (.int i1), .val (.int i2), .val (.int (1 : Int32))]) K X d4_53 rfl rfl ?_
  exact w4_54 K sep X o0 i1 i2 (1 : Int32) (show cells + 0 ≤ 0 by omega) (show slots + 0 ≤ 0 by omega) hf
def f4_46 (A : AH) (i2 : Int32) (r0 : Nat) : Option (Int32 × AH) :=
  (asR (h_fget A 10 r0 5)).bind fun v1 =>
  (h_aset A 4 v1 i2 (.int (nar .boolean (1 : Int32)))).bind fun A2 =>
  f4_52 A2 
set_option maxRecDepth 65536 in
set_option maxHeartbeats 4000000 in
theorem w4_46 (K : Cx p l e own_R4 s m meth c Z a0 tables_1 "com/example/thabiti/thabiti/core/Bindings" "requireConstant" prog_8_method_11_code 4 (some .boolean)) (sep : ∀ t, Sep Z (own_D t).2) (X : On p l e own_R4 s m args below meth c own_D Z n0 T A cells slots) (o0 : Nat) (i1 : Int32) (i2 : Int32) (r0 : Nat) (hc : cells + 0 ≤ 0) (hs : slots + 0 ≤ 0) {q : Int32 × AH} (hf : f4_46 A i2 r0 = some q) :
    Go p e below (T.setTop (mkF m 46 #[.val (.ref (n0 + o0)), .val (.int i1), .val (.int i2), .unset] [(.ref (n0 + r0))])) (Fini own_D Z n0 s own_R4 (some (.int q.1)) q.2) := by
  unfold f4_46 at hf
  obtain ⟨v1, g1, hf⟩ := bs hf
  refine getfR (pc' := 49) K X (i := 21) rfl d4_46 (t := 10) (f := 5) (by decide) rfl g1 rfl (fun T1 X1 => ?_)
  refine i_iloadN (pc' := 50) K X1 d4_49 rfl rfl ?_
  refine i_iconst (pc' := 51) (v := (1 : Int32)) K X1 d4_50 rfl rfl ?_
  obtain ⟨A2, g2, hf⟩ := bs hf
  refine ast4 (pc' := 52) K X1 g2 d4_51 rfl (fun T2 X2 => ?_)
  exact w4_52 K sep X2 o0 i1 i2 (show cells + 0 ≤ 0 by omega) (show slots + 0 ≤ 0 by omega) hf
def f4_26 (A : AH) (s0 : Int32) : Option (Int32 × AH) :=
  f4_54 A s0
set_option maxRecDepth 65536 in
set_option maxHeartbeats 4000000 in
theorem w4_26 (K : Cx p l e own_R4 s m meth c Z a0 tables_1 "com/example/thabiti/thabiti/core/Bindings" "requireConstant" prog_8_method_11_code 4 (some .boolean)) (sep : ∀ t, Sep Z (own_D t).2) (X : On p l e own_R4 s m args below meth c own_D Z n0 T A cells slots) (o0 : Nat) (i1 : Int32) (i2 : Int32) (s0 : Int32) (hc : cells + 0 ≤ 0) (hs : slots + 0 ≤ 0) {q : Int32 × AH} (hf : f4_26 A s0 = some q) :
    Go p e below (T.setTop (mkF m 26 #[.val (.ref (n0 + o0)), .val (.int i1), .val (.int i2), .unset] [(.int s0)])) (Fini own_D Z n0 s own_R4 (some (.int q.1)) q.2) := by
  unfold f4_26 at hf
  refine i_istoreN (pc' := 27) (Ls' := #[.val (.ref (n0 + o0)), .val (.int i1), .val (.int i2), .val (.int s0)]) K X d4_26 rfl rfl ?_
  refine i_goto (pc' := 54) K X d4_27 (by decide) (by decide) ?_
  exact w4_54 K sep X o0 i1 i2 s0 (show cells + 0 ≤ 0 by omega) (show slots + 0 ≤ 0 by omega) hf
def f4_0 (A : AH) (o0 : Nat) (i1 : Int32) : Option (Int32 × AH) :=
  (h_isA A 10 o0).bind fun y2 =>
  (f5_0 A o0 i1).bind fun q1 =>
  if q1.1 < (0 : Int32) then ((asI (h_fget q1.2 10 o0 1)).bind fun v8 =>
  if (f6_0 q1.1) < v8 then (f4_26 q1.2 (1 : Int32))
  else (f4_26 q1.2 (0 : Int32)))
  else ((asR (h_fget q1.2 10 o0 5)).bind fun v3 =>
  (asI (h_aget q1.2 4 v3 q1.1)).bind fun v4 =>
  if v4 = (0 : Int32) then ((h_isA q1.2 10 o0).bind fun y6 =>
  (f14_0 q1.2 o0 q1.1 (-1 : Int32)).bind fun A5 =>
  f4_46 A5 q1.1 o0)
  else (f4_52 q1.2 ))
set_option maxRecDepth 65536 in
set_option maxHeartbeats 4000000 in
theorem w4_0 (K : Cx p l e own_R4 s m meth c Z a0 tables_1 "com/example/thabiti/thabiti/core/Bindings" "requireConstant" prog_8_method_11_code 4 (some .boolean)) (sep : ∀ t, Sep Z (own_D t).2) (X : On p l e own_R4 s m args below meth c own_D Z n0 T A cells slots) (o0 : Nat) (i1 : Int32) (hc : cells + 0 ≤ 0) (hs : slots + 0 ≤ 0) {q : Int32 × AH} (hf : f4_0 A o0 i1 = some q) :
    Go p e below (T.setTop (mkF m 0 #[.val (.ref (n0 + o0)), .val (.int i1), .unset, .unset] [])) (Fini own_D Z n0 s own_R4 (some (.int q.1)) q.2) := by
  unfold f4_0 at hf
  refine i_aloadN (pc' := 1) K X d4_0 rfl rfl rfl ?_
  refine i_iloadN (pc' := 2) K X d4_1 rfl rfl ?_
  obtain ⟨y2, g2, hf⟩ := bs hf
  obtain ⟨q1, g1, hf⟩ := bs hf
  refine callv (pc' := 5) (kc := cells) (ks := slots) (S' := [(.int q1.1)]) (st := []) K X (i1 := 35) rfl (i2 := 36) rfl (i5 := 38) (t := 10) rfl (i6 := 37) rfl (i3 := 2) rfl (i4 := 39) rfl (by decide) (by decide) g2 (rm5 (l := l) (n0 := n0) (K.2.2.2.2.2.2.2.2) A o0 i1 g1) pd_5 rfl d4_2 rfl rfl (by decide) (w := 0) (Nat.le_of_eq rfl) (by decide) (show cells + 0 ≤ 0 by omega) (show slots + 0 ≤ 0 by omega) rfl rfl rfl rfl (fun T1 X1 => ?_)
  refine i_istoreN (pc' := 6) (Ls' := #[.val (.ref (n0 + o0)), .val (.int i1), .val (.int q1.1), .unset]) K X1 d4_5 rfl rfl ?_
  refine i_iloadN (pc' := 7) K X1 d4_6 rfl rfl ?_
  by_cases hc7 : q1.1 < (0 : Int32)
  · rw [if_pos hc7] at hf
    refine i_ifNo (pc' := 10) K X1 d4_7 rfl (tlt hc7).2.1 ?_
    refine i_iloadN (pc' := 11) K X1 d4_10 rfl rfl ?_
    refine calls (pc' := 14) (kc := cells) (ks := slots) (S' := [(.int (f6_0 q1.1))]) (st := []) K X1 (i1 := 40) rfl (i2 := 41) rfl (i3 := 2) rfl (i4 := 42) rfl (by decide) (rm6 (l := l) (n0 := n0) (K.2.2.2.2.2.2.2.2) q1.2 q1.1) pd_6 rfl d4_11 rfl rfl (by decide) (w := 0) (Nat.le_of_eq rfl) (by decide) (show cells + 0 ≤ 0 by omega) (show slots + 0 ≤ 0 by omega) rfl rfl rfl rfl (fun T7 X7 => ?_)
    refine i_aloadN (pc' := 15) K X7 d4_14 rfl rfl rfl ?_
    obtain ⟨v8, g8, hf⟩ := bs hf
    refine getfI (pc' := 18) K X7 (i := 12) rfl d4_15 (t := 10) (f := 1) (by decide) rfl g8 rfl (fun T8 X8 => ?_)
    by_cases hc18 : (f6_0 q1.1) < v8
    · rw [if_pos hc18] at hf
      refine i_icmpNo (pc' := 21) K X8 d4_18 rfl (tlt hc18).2.1 ?_
      refine i_iconst (pc' := 22) (v := (1 : Int32)) K X8 d4_21 rfl rfl ?_
      refine i_goto (pc' := 26) K X8 d4_22 (by decide) (by decide) ?_
      exact w4_26 K sep X8 o0 i1 q1.1 (1 : Int32) (show cells + 0 ≤ 0 by omega) (show slots + 0 ≤ 0 by omega) hf
    · rw [if_neg hc18] at hf
      refine i_icmpYes (pc' := 25) K X8 d4_18 (flt hc18).2.1 (by decide) (by decide) ?_
      refine i_iconst (pc' := 26) (v := (0 : Int32)) K X8 d4_25 rfl rfl ?_
      exact w4_26 K sep X8 o0 i1 q1.1 (0 : Int32) (show cells + 0 ≤ 0 by omega) (show slots + 0 ≤ 0 by omega) hf
  · rw [if_neg hc7] at hf
    refine i_ifYes (pc' := 30) K X1 d4_7 (flt hc7).2.1 (by decide) (by decide) ?_
    refine i_aloadN (pc' := 31) K X1 d4_30 rfl rfl rfl ?_
    obtain ⟨v3, g3, hf⟩ := bs hf
    refine getfR (pc' := 34) K X1 (i := 21) rfl d4_31 (t := 10) (f := 5) (by decide) rfl g3 rfl (fun T3 X3 => ?_)
    refine i_iloadN (pc' := 35) K X3 d4_34 rfl rfl ?_
    obtain ⟨v4, g4, hf⟩ := bs hf
    refine ld4 (pc' := 36) K X3 g4 d4_35 rfl ?_
    by_cases hc36 : v4 = (0 : Int32)
    · rw [if_pos hc36] at hf
      refine i_ifNo (pc' := 39) K X3 d4_36 rfl (teq hc36).2 ?_
      refine i_aloadN (pc' := 40) K X3 d4_39 rfl rfl rfl ?_
      refine i_iloadN (pc' := 41) K X3 d4_40 rfl rfl ?_
      refine i_iconst (pc' := 42) (v := (-1 : Int32)) K X3 d4_41 rfl rfl ?_
      obtain ⟨y6, g6, hf⟩ := bs hf
      obtain ⟨A5, g5, hf⟩ := bs hf
      refine callp (pc' := 45) (kc := cells) (ks := slots) (S' := []) (st := []) K X3 (i1 := 77) rfl (i2 := 79) rfl (i5 := 1) (t := 10) rfl (i6 := 78) rfl (i3 := 2) rfl (i4 := 80) rfl (by decide) (by decide) g6 (rm14 (l := l) (n0 := n0) (K.2.2.2.2.2.2.2.2) q1.2 o0 q1.1 (-1 : Int32) g5) pd_14 rfl d4_42 rfl rfl (by decide) (w := 0) (Nat.le_of_eq rfl) (by decide) (show cells + 0 ≤ 0 by omega) (show slots + 0 ≤ 0 by omega) rfl rfl rfl rfl (fun T5 X5 => ?_)
      refine i_aloadN (pc' := 46) K X5 d4_45 rfl rfl rfl ?_
      exact w4_46 K sep X5 o0 i1 q1.1 o0 (show cells + 0 ≤ 0 by omega) (show slots + 0 ≤ 0 by omega) hf
    · rw [if_neg hc36] at hf
      refine i_ifYes (pc' := 52) K X3 d4_36 (feq hc36).2 (by decide) (by decide) ?_
      exact w4_52 K sep X3 o0 i1 q1.1 (show cells + 0 ≤ 0 by omega) (show slots + 0 ≤ 0 by omega) hf
theorem pn_4 : plainName "com/example/thabiti/thabiti/core/Bindings" = true := by first | (simp [plainName, overriddenIn]; done) | decide +kernel
theorem rm4 {l : Launch} {Z : State} {a0 : Array Value} {n0 : Nat} (hw : ∀ d ∈ tables_1, d.before a0 Z = true) (A : AH) (o0 : Nat) (i1 : Int32) {q : Int32 × AH} (hf : f4_0 A o0 i1 = some q) :
    Met l own_D Z n0 (⟨"com/example/thabiti/thabiti/core/Bindings", "requireConstant", "(I)Z"⟩ : MethodName) prog_8_method_11_code 4 (some .boolean) own_R4 [(.ref (n0 + o0)), (.int i1)] A (some (.int q.1)) q.2 :=
  met (W := tables_1) (a0 := a0) (own := "com/example/thabiti/thabiti/core/Bindings") (nm := "requireConstant") (L0 := #[.val (.ref (n0 + o0)), .val (.int i1), .unset, .unset]) (plainFor_of_name pn_4) hw rfl rfl (fun m => by first | (simp [entryFrame, mkF, argsToLocals, Value.category]; done) | rfl) (fun p e s m below meth c T K X => w4_0 K (own_sep hw) X o0 i1 (show 0 + 0 ≤ 0 by decide) (show 0 + 0 ≤ 0 by decide) hf)
/-! body 2: BindingsUndoPinLaw.step(Lcom/example/thabiti/thabiti/core/Bindings;I)Z -/
theorem d2_0 : decode method_4_code 0 = .ok (.iload_n 1, 1) := by decide +kernel
theorem d2_1 : decode method_4_code 1 = .ok (.iconst 1, 1) := by decide +kernel
theorem d2_2 : decode method_4_code 2 = .ok (.iushr, 1) := by decide +kernel
theorem d2_3 : decode method_4_code 3 = .ok (.invokestatic 30, 3) := by decide +kernel
theorem d2_6 : decode method_4_code 6 = .ok (.istore_n 2, 1) := by decide +kernel
theorem d2_7 : decode method_4_code 7 = .ok (.iload_n 1, 1) := by decide +kernel
theorem d2_8 : decode method_4_code 8 = .ok (.iconst 4, 1) := by decide +kernel
theorem d2_9 : decode method_4_code 9 = .ok (.iushr, 1) := by decide +kernel
theorem d2_10 : decode method_4_code 10 = .ok (.invokestatic 30, 3) := by decide +kernel
theorem d2_13 : decode method_4_code 13 = .ok (.istore_n 3, 1) := by decide +kernel
theorem d2_14 : decode method_4_code 14 = .ok (.iload_n 1, 1) := by decide +kernel
theorem d2_15 : decode method_4_code 15 = .ok (.iconst 1, 1) := by decide +kernel
theorem d2_16 : decode method_4_code 16 = .ok (.iand, 1) := by decide +kernel
theorem d2_17 : decode method_4_code 17 = .ok (.ifCond .ne 10, 3) := by decide +kernel
theorem d2_20 : decode method_4_code 20 = .ok (.aload_n 0, 1) := by decide +kernel
theorem d2_21 : decode method_4_code 21 = .ok (.iload_n 2, 1) := by decide +kernel
theorem d2_22 : decode method_4_code 22 = .ok (.iload_n 3, 1) := by decide +kernel
theorem d2_23 : decode method_4_code 23 = .ok (.invokevirtual 34, 3) := by decide +kernel
theorem d2_26 : decode method_4_code 26 = .ok (.ireturn, 1) := by decide +kernel
theorem d2_27 : decode method_4_code 27 = .ok (.aload_n 0, 1) := by decide +kernel
theorem d2_28 : decode method_4_code 28 = .ok (.iload_n 2, 1) := by decide +kernel
theorem d2_29 : decode method_4_code 29 = .ok (.invokevirtual 38, 3) := by decide +kernel
theorem d2_32 : decode method_4_code 32 = .ok (.ireturn, 1) := by decide +kernel
theorem pd_2 : parseMethodDescriptor "(Lcom/example/thabiti/thabiti/core/Bindings;I)Z" = some ⟨[(.object "com/example/thabiti/thabiti/core/Bindings"), .int], some .boolean⟩ := by decide +kernel
abbrev own_R2 : Room := { frames := 3, cells := 0, slots := 0, locals := 47 }
def f2_10 (A : AH) (o0 : Nat) (i1 : Int32) (i2 : Int32) (s0 : Int32) : Option (Int32 × AH) :=
  if (i1 &&& (1 : Int32)) = (0 : Int32) then ((h_isA A 10 o0).bind fun y5 =>
  (f7_0 A o0 i2 (f3_0 s0)).bind fun q4 =>
  some ((nar .boolean q4.1), q4.2))
  else ((h_isA A 10 o0).bind fun y3 =>
  (f4_0 A o0 i2).bind fun q2 =>
  some ((nar .boolean q2.1), q2.2))
set_option maxRecDepth 65536 in
set_option maxHeartbeats 4000000 in
theorem w2_10 (K : Cx p l e own_R2 s m meth c Z a0 tables_1 "com/example/thabiti/thabiti/core/BindingsUndoPinLaw" "step" method_4_code 4 (some .boolean)) (sep : ∀ t, Sep Z (own_D t).2) (X : On p l e own_R2 s m args below meth c own_D Z n0 T A cells slots) (o0 : Nat) (i1 : Int32) (i2 : Int32) (s0 : Int32) (hc : cells + 0 ≤ 0) (hs : slots + 0 ≤ 0) {q : Int32 × AH} (hf : f2_10 A o0 i1 i2 s0 = some q) :
    Go p e below (T.setTop (mkF m 10 #[.val (.ref (n0 + o0)), .val (.int i1), .val (.int i2), .unset] [(.int s0)])) (Fini own_D Z n0 s own_R2 (some (.int q.1)) q.2) := by
  unfold f2_10 at hf
  refine calls (pc' := 13) (kc := cells) (ks := slots) (S' := [(.int (f3_0 s0))]) (st := []) K X (i1 := 27) rfl (i2 := 28) rfl (i3 := 25) rfl (i4 := 29) rfl (by decide) (rm3 (l := l) (n0 := n0) (K.2.2.2.2.2.2.2.2) A s0) pd_3 rfl d2_10 rfl rfl (by decide) (w := 0) (Nat.le_of_eq rfl) (by decide) (show cells + 0 ≤ 0 by omega) (show slots + 0 ≤ 0 by omega) rfl rfl rfl rfl (fun T1 X1 => ?_)
  refine i_istoreN (pc' := 14) (Ls' := #[.val (.ref (n0 + o0)), .val (.int i1), .val (.int i2), .val (.int (f3_0 s0))]) K X1 d2_13 rfl rfl ?_
  refine i_iloadN (pc' := 15) K X1 d2_14 rfl rfl ?_
  refine i_iconst (pc' := 16) (v := (1 : Int32)) K X1 d2_15 rfl rfl ?_
  refine i_iand (pc' := 17) K X1 d2_16 rfl ?_
  by_cases hc17 : (i1 &&& (1 : Int32)) = (0 : Int32)
  · rw [if_pos hc17] at hf
    refine i_ifNo (pc' := 20) K X1 d2_17 rfl (teq hc17).2 ?_
    refine i_aloadN (pc' := 21) K X1 d2_20 rfl rfl rfl ?_
    refine i_iloadN (pc' := 22) K X1 d2_21 rfl rfl ?_
    refine i_iloadN (pc' := 23) K X1 d2_22 rfl rfl ?_
    obtain ⟨y5, g5, hf⟩ := bs hf
    obtain ⟨q4, g4, hf⟩ := bs hf
    refine callv (pc' := 26) (kc := cells) (ks := slots) (S' := [(.int q4.1)]) (st := []) K X1 (i1 := 43) rfl (i2 := 44) rfl (i5 := 46) (t := 10) rfl (i6 := 45) rfl (i3 := 2) rfl (i4 := 47) rfl (by decide) (by decide) g5 (rm7 (l := l) (n0 := n0) (K.2.2.2.2.2.2.2.2) A o0 i2 (f3_0 s0) g4) pd_7 rfl d2_23 rfl rfl (by decide) (w := 0) (Nat.le_of_eq rfl) (by decide) (show cells + 0 ≤ 0 by omega) (show slots + 0 ≤ 0 by omega) rfl rfl rfl rfl (fun T4 X4 => ?_)
    cases hf
    exact retB K (by simp) X4 (show cells ≤ 0 by omega) (show slots ≤ 0 by omega) d2_26
  · rw [if_neg hc17] at hf
    refine i_ifYes (pc' := 27) K X1 d2_17 (feq hc17).2 (by decide) (by decide) ?_
    refine i_aloadN (pc' := 28) K X1 d2_27 rfl rfl rfl ?_
    refine i_iloadN (pc' := 29) K X1 d2_28 rfl rfl ?_
    obtain ⟨y3, g3, hf⟩ := bs hf
    obtain ⟨q2, g2, hf⟩ := bs hf
    refine callv (pc' := 32) (kc := cells) (ks := slots) (S' := [(.int q2.1)]) (st := []) K X1 (i1 := 30) rfl (i2 := 31) rfl (i5 := 33) (t := 10) rfl (i6 := 32) rfl (i3 := 2) rfl (i4 := 34) rfl (by decide) (by decide) g3 (rm4 (l := l) (n0 := n0) (K.2.2.2.2.2.2.2.2) A o0 i2 g2) pd_4 rfl d2_29 rfl rfl (by decide) (w := 0) (Nat.le_of_eq rfl) (by decide) (show cells + 0 ≤ 0 by omega) (show slots + 0 ≤ 0 by omega) rfl rfl rfl rfl (fun T2 X2 => ?_)
    cases hf
    exact retB K (by simp) X2 (show cells ≤ 0 by omega) (show slots ≤ 0 by omega) d2_32
def f2_3 (A : AH) (o0 : Nat) (i1 : Int32) (s0 : Int32) : Option (Int32 × AH) :=
  f2_10 A o0 i1 (f3_0 s0) (((i1).toUInt32 >>> ((4 : Int32) &&& 31).toUInt32).toInt32)
set_option maxRecDepth 65536 in
set_option maxHeartbeats 4000000 in
theorem w2_3 (K : Cx p l e own_R2 s m meth c Z a0 tables_1 "com/example/thabiti/thabiti/core/BindingsUndoPinLaw" "step" method_4_code 4 (some .boolean)) (sep : ∀ t, Sep Z (own_D t).2) (X : On p l e own_R2 s m args below meth c own_D Z n0 T A cells slots) (o0 : Nat) (i1 : Int32) (s0 : Int32) (hc : cells + 0 ≤ 0) (hs : slots + 0 ≤ 0) {q : Int32 × AH} (hf : f2_3 A o0 i1 s0 = some q) :
    Go p e below (T.setTop (mkF m 3 #[.val (.ref (n0 + o0)), .val (.int i1), .unset, .unset] [(.int s0)])) (Fini own_D Z n0 s own_R2 (some (.int q.1)) q.2) := by
  unfold f2_3 at hf
  refine calls (pc' := 6) (kc := cells) (ks := slots) (S' := [(.int (f3_0 s0))]) (st := []) K X (i1 := 27) rfl (i2 := 28) rfl (i3 := 25) rfl (i4 := 29) rfl (by decide) (rm3 (l := l) (n0 := n0) (K.2.2.2.2.2.2.2.2) A s0) pd_3 rfl d2_3 rfl rfl (by decide) (w := 0) (Nat.le_of_eq rfl) (by decide) (show cells + 0 ≤ 0 by omega) (show slots + 0 ≤ 0 by omega) rfl rfl rfl rfl (fun T1 X1 => ?_)
  refine i_istoreN (pc' := 7) (Ls' := #[.val (.ref (n0 + o0)), .val (.int i1), .val (.int (f3_0 s0)), .unset]) K X1 d2_6 rfl rfl ?_
  refine i_iloadN (pc' := 8) K X1 d2_7 rfl rfl ?_
  refine i_iconst (pc' := 9) (v := (4 : Int32)) K X1 d2_8 rfl rfl ?_
  refine i_iushr (pc' := 10) K X1 d2_9 rfl ?_
  exact w2_10 K sep X1 o0 i1 (f3_0 s0) (((i1).toUInt32 >>> ((4 : Int32) &&& 31).toUInt32).toInt32) (show cells + 0 ≤ 0 by omega) (show slots + 0 ≤ 0 by omega) hf
def f2_0 (A : AH) (o0 : Nat) (i1 : Int32) : Option (Int32 × AH) :=
  f2_3 A o0 i1 (((i1).toUInt32 >>> ((1 : Int32) &&& 31).toUInt32).toInt32)
set_option maxRecDepth 65536 in
set_option maxHeartbeats 4000000 in
theorem w2_0 (K : Cx p l e own_R2 s m meth c Z a0 tables_1 "com/example/thabiti/thabiti/core/BindingsUndoPinLaw" "step" method_4_code 4 (some .boolean)) (sep : ∀ t, Sep Z (own_D t).2) (X : On p l e own_R2 s m args below meth c own_D Z n0 T A cells slots) (o0 : Nat) (i1 : Int32) (hc : cells + 0 ≤ 0) (hs : slots + 0 ≤ 0) {q : Int32 × AH} (hf : f2_0 A o0 i1 = some q) :
    Go p e below (T.setTop (mkF m 0 #[.val (.ref (n0 + o0)), .val (.int i1), .unset, .unset] [])) (Fini own_D Z n0 s own_R2 (some (.int q.1)) q.2) := by
  unfold f2_0 at hf
  refine i_iloadN (pc' := 1) K X d2_0 rfl rfl ?_
  refine i_iconst (pc' := 2) (v := (1 : Int32)) K X d2_1 rfl rfl ?_
  refine i_iushr (pc' := 3) K X d2_2 rfl ?_
  exact w2_3 K sep X o0 i1 (((i1).toUInt32 >>> ((1 : Int32) &&& 31).toUInt32).toInt32) (show cells + 0 ≤ 0 by omega) (show slots + 0 ≤ 0 by omega) hf
theorem pn_2 : plainName "com/example/thabiti/thabiti/core/BindingsUndoPinLaw" = true := by first | (simp [plainName, overriddenIn]; done) | decide +kernel
theorem rm2 {l : Launch} {Z : State} {a0 : Array Value} {n0 : Nat} (hw : ∀ d ∈ tables_1, d.before a0 Z = true) (A : AH) (o0 : Nat) (i1 : Int32) {q : Int32 × AH} (hf : f2_0 A o0 i1 = some q) :
    Met l own_D Z n0 (⟨"com/example/thabiti/thabiti/core/BindingsUndoPinLaw", "step", "(Lcom/example/thabiti/thabiti/core/Bindings;I)Z"⟩ : MethodName) method_4_code 4 (some .boolean) own_R2 [(.ref (n0 + o0)), (.int i1)] A (some (.int q.1)) q.2 :=
  met (W := tables_1) (a0 := a0) (own := "com/example/thabiti/thabiti/core/BindingsUndoPinLaw") (nm := "step") (L0 := #[.val (.ref (n0 + o0)), .val (.int i1), .unset, .unset]) (plainFor_of_name pn_2) hw rfl rfl (fun m => by first | (simp [entryFrame, mkF, argsToLocals, Value.category]; done) | rfl) (fun p e s m below meth c T K X => w2_0 K (own_sep hw) X o0 i1 (show 0 + 0 ≤ 0 by decide) (show 0 + 0 ≤ 0 by decide) hf)
/-! body 8: Bindings.mark()I -/
theorem d8_0 : decode prog_8_method_4_code 0 = .ok (.aload_n 0, 1) := by decide +kernel
theorem d8_1 : decode prog_8_method_4_code 1 = .ok (.getfield 30, 3) := by decide +kernel
theorem d8_4 : decode prog_8_method_4_code 4 = .ok (.ireturn, 1) := by decide +kernel
theorem pd_8 : parseMethodDescriptor "()I" = some ⟨[], some .int⟩ := by decide +kernel
abbrev own_R8 : Room := { frames := 0, cells := 0, slots := 0, locals := 0 }
def f8_0 (A : AH) (o0 : Nat) : Option (Int32 × AH) :=
  (asI (h_fget A 10 o0 6)).bind fun v1 =>
  some (v1, A)
set_option maxRecDepth 65536 in
set_option maxHeartbeats 4000000 in
theorem w8_0 (K : Cx p l e own_R8 s m meth c Z a0 tables_1 "com/example/thabiti/thabiti/core/Bindings" "mark" prog_8_method_4_code 1 (some .int)) (sep : ∀ t, Sep Z (own_D t).2) (X : On p l e own_R8 s m args below meth c own_D Z n0 T A cells slots) (o0 : Nat) (hc : cells + 0 ≤ 0) (hs : slots + 0 ≤ 0) {q : Int32 × AH} (hf : f8_0 A o0 = some q) :
    Go p e below (T.setTop (mkF m 0 #[.val (.ref (n0 + o0))] [])) (Fini own_D Z n0 s own_R8 (some (.int q.1)) q.2) := by
  unfold f8_0 at hf
  refine i_aloadN (pc' := 1) K X d8_0 rfl rfl rfl ?_
  obtain ⟨v1, g1, hf⟩ := bs hf
  refine getfI (pc' := 4) K X (i := 53) rfl d8_1 (t := 10) (f := 6) (by decide) rfl g1 rfl (fun T1 X1 => ?_)
  cases hf
  exact retI K X1 (show cells ≤ 0 by omega) (show slots ≤ 0 by omega) d8_4
theorem pn_8 : plainName "com/example/thabiti/thabiti/core/Bindings" = true := by first | (simp [plainName, overriddenIn]; done) | decide +kernel
theorem rm8 {l : Launch} {Z : State} {a0 : Array Value} {n0 : Nat} (hw : ∀ d ∈ tables_1, d.before a0 Z = true) (A : AH) (o0 : Nat) {q : Int32 × AH} (hf : f8_0 A o0 = some q) :
    Met l own_D Z n0 (⟨"com/example/thabiti/thabiti/core/Bindings", "mark", "()I"⟩ : MethodName) prog_8_method_4_code 1 (some .int) own_R8 [(.ref (n0 + o0))] A (some (.int q.1)) q.2 :=
  met (W := tables_1) (a0 := a0) (own := "com/example/thabiti/thabiti/core/Bindings") (nm := "mark") (L0 := #[.val (.ref (n0 + o0))]) (plainFor_of_name pn_8) hw rfl rfl (fun m => by first | (simp [entryFrame, mkF, argsToLocals, Value.category]; done) | rfl) (fun p e s m below meth c T K X => w8_0 K (own_sep hw) X o0 (show 0 + 0 ≤ 0 by decide) (show 0 + 0 ≤ 0 by decide) hf)
/-! body 9: Bindings.undo(I)V -/
theorem d9_0 : decode prog_8_method_5_code 0 = .ok (.aload_n 0, 1) := by decide +kernel
theorem d9_1 : decode prog_8_method_5_code 1 = .ok (.getfield 30, 3) := by decide +kernel
theorem d9_4 : decode prog_8_method_5_code 4 = .ok (.iload_n 1, 1) := by decide +kernel
theorem d9_5 : decode prog_8_method_5_code 5 = .ok (.if_icmp .le 109, 3) := by decide +kernel
theorem d9_8 : decode prog_8_method_5_code 8 = .ok (.aload_n 0, 1) := by decide +kernel
theorem d9_9 : decode prog_8_method_5_code 9 = .ok (.dup, 1) := by decide +kernel
theorem d9_10 : decode prog_8_method_5_code 10 = .ok (.getfield 30, 3) := by decide +kernel
theorem d9_13 : decode prog_8_method_5_code 13 = .ok (.iconst 5, 1) := by decide +kernel
theorem d9_14 : decode prog_8_method_5_code 14 = .ok (.isub, 1) := by decide +kernel
theorem d9_15 : decode prog_8_method_5_code 15 = .ok (.putfield 30, 3) := by decide +kernel
theorem d9_18 : decode prog_8_method_5_code 18 = .ok (.aload_n 0, 1) := by decide +kernel
theorem d9_19 : decode prog_8_method_5_code 19 = .ok (.getfield 9, 3) := by decide +kernel
theorem d9_22 : decode prog_8_method_5_code 22 = .ok (.aload_n 0, 1) := by decide +kernel
theorem d9_23 : decode prog_8_method_5_code 23 = .ok (.getfield 30, 3) := by decide +kernel
theorem d9_26 : decode prog_8_method_5_code 26 = .ok (.iaload, 1) := by decide +kernel
theorem d9_27 : decode prog_8_method_5_code 27 = .ok (.istore_n 2, 1) := by decide +kernel
theorem d9_28 : decode prog_8_method_5_code 28 = .ok (.aload_n 0, 1) := by decide +kernel
theorem d9_29 : decode prog_8_method_5_code 29 = .ok (.getfield 20, 3) := by decide +kernel
theorem d9_32 : decode prog_8_method_5_code 32 = .ok (.iload_n 2, 1) := by decide +kernel
theorem d9_33 : decode prog_8_method_5_code 33 = .ok (.aload_n 0, 1) := by decide +kernel
theorem d9_34 : decode prog_8_method_5_code 34 = .ok (.getfield 9, 3) := by decide +kernel
theorem d9_37 : decode prog_8_method_5_code 37 = .ok (.aload_n 0, 1) := by decide +kernel
theorem d9_38 : decode prog_8_method_5_code 38 = .ok (.getfield 30, 3) := by decide +kernel
theorem d9_41 : decode prog_8_method_5_code 41 = .ok (.iconst 1, 1) := by decide +kernel
theorem d9_42 : decode prog_8_method_5_code 42 = .ok (.iadd, 1) := by decide +kernel
theorem d9_43 : decode prog_8_method_5_code 43 = .ok (.iaload, 1) := by decide +kernel
theorem d9_44 : decode prog_8_method_5_code 44 = .ok (.iastore, 1) := by decide +kernel
theorem d9_45 : decode prog_8_method_5_code 45 = .ok (.aload_n 0, 1) := by decide +kernel
theorem d9_46 : decode prog_8_method_5_code 46 = .ok (.getfield 23, 3) := by decide +kernel
theorem d9_49 : decode prog_8_method_5_code 49 = .ok (.iload_n 2, 1) := by decide +kernel
theorem d9_50 : decode prog_8_method_5_code 50 = .ok (.aload_n 0, 1) := by decide +kernel
theorem d9_51 : decode prog_8_method_5_code 51 = .ok (.getfield 9, 3) := by decide +kernel
theorem d9_54 : decode prog_8_method_5_code 54 = .ok (.aload_n 0, 1) := by decide +kernel
theorem d9_55 : decode prog_8_method_5_code 55 = .ok (.getfield 30, 3) := by decide +kernel
theorem d9_58 : decode prog_8_method_5_code 58 = .ok (.iconst 2, 1) := by decide +kernel
theorem d9_59 : decode prog_8_method_5_code 59 = .ok (.iadd, 1) := by decide +kernel
theorem d9_60 : decode prog_8_method_5_code 60 = .ok (.iaload, 1) := by decide +kernel
theorem d9_61 : decode prog_8_method_5_code 61 = .ok (.iastore, 1) := by decide +kernel
theorem d9_62 : decode prog_8_method_5_code 62 = .ok (.aload_n 0, 1) := by decide +kernel
theorem d9_63 : decode prog_8_method_5_code 63 = .ok (.getfield 26, 3) := by decide +kernel
theorem d9_66 : decode prog_8_method_5_code 66 = .ok (.iload_n 2, 1) := by decide +kernel
theorem d9_67 : decode prog_8_method_5_code 67 = .ok (.aload_n 0, 1) := by decide +kernel
theorem d9_68 : decode prog_8_method_5_code 68 = .ok (.getfield 9, 3) := by decide +kernel
theorem d9_71 : decode prog_8_method_5_code 71 = .ok (.aload_n 0, 1) := by decide +kernel
theorem d9_72 : decode prog_8_method_5_code 72 = .ok (.getfield 30, 3) := by decide +kernel
theorem d9_75 : decode prog_8_method_5_code 75 = .ok (.iconst 3, 1) := by decide +kernel
theorem d9_76 : decode prog_8_method_5_code 76 = .ok (.iadd, 1) := by decide +kernel
theorem d9_77 : decode prog_8_method_5_code 77 = .ok (.iaload, 1) := by decide +kernel
theorem d9_78 : decode prog_8_method_5_code 78 = .ok (.iconst 1, 1) := by decide +kernel
theorem d9_79 : decode prog_8_method_5_code 79 = .ok (.if_icmp .ne 7, 3) := by decide +kernel
theorem d9_82 : decode prog_8_method_5_code 82 = .ok (.iconst 1, 1) := by decide +kernel
theorem d9_83 : decode prog_8_method_5_code 83 = .ok (.goto 4, 3) := by decide +kernel
theorem d9_86 : decode prog_8_method_5_code 86 = .ok (.iconst 0, 1) := by decide +kernel
theorem d9_87 : decode prog_8_method_5_code 87 = .ok (.bastore, 1) := by decide +kernel
theorem d9_88 : decode prog_8_method_5_code 88 = .ok (.aload_n 0, 1) := by decide +kernel
theorem d9_89 : decode prog_8_method_5_code 89 = .ok (.getfield 9, 3) := by decide +kernel
theorem d9_92 : decode prog_8_method_5_code 92 = .ok (.aload_n 0, 1) := by decide +kernel
theorem d9_93 : decode prog_8_method_5_code 93 = .ok (.getfield 30, 3) := by decide +kernel
theorem d9_96 : decode prog_8_method_5_code 96 = .ok (.iconst 4, 1) := by decide +kernel
theorem d9_97 : decode prog_8_method_5_code 97 = .ok (.iadd, 1) := by decide +kernel
theorem d9_98 : decode prog_8_method_5_code 98 = .ok (.iaload, 1) := by decide +kernel
theorem d9_99 : decode prog_8_method_5_code 99 = .ok (.istore_n 3, 1) := by decide +kernel
theorem d9_100 : decode prog_8_method_5_code 100 = .ok (.iload_n 3, 1) := by decide +kernel
theorem d9_101 : decode prog_8_method_5_code 101 = .ok (.ifCond .lt 10, 3) := by decide +kernel
theorem d9_104 : decode prog_8_method_5_code 104 = .ok (.aload_n 0, 1) := by decide +kernel
theorem d9_105 : decode prog_8_method_5_code 105 = .ok (.getfield 17, 3) := by decide +kernel
theorem d9_108 : decode prog_8_method_5_code 108 = .ok (.iload_n 3, 1) := by decide +kernel
theorem d9_109 : decode prog_8_method_5_code 109 = .ok (.iload_n 3, 1) := by decide +kernel
theorem d9_110 : decode prog_8_method_5_code 110 = .ok (.iastore, 1) := by decide +kernel
theorem d9_111 : decode prog_8_method_5_code 111 = .ok (.goto (-111), 3) := by decide +kernel
theorem d9_114 : decode prog_8_method_5_code 114 = .ok (.return_, 1) := by decide +kernel
theorem pd_9 : parseMethodDescriptor "(I)V" = some ⟨[.int], none⟩ := by decide +kernel
abbrev own_R9 : Room := { frames := 0, cells := 0, slots := 0, locals := 0 }
def f9_111 (rec0 : AH → Nat → Int32 → Option (AH)) (A : AH) (o0 : Nat) (i1 : Int32) : Option (AH) :=
  rec0 A o0 i1
set_option maxRecDepth 65536 in
set_option maxHeartbeats 4000000 in
theorem w9_111 (K : Cx p l e own_R9 s m meth c Z a0 tables_1 "com/example/thabiti/thabiti/core/Bindings" "undo" prog_8_method_5_code 4 none) (sep : ∀ t, Sep Z (own_D t).2) {rec0 : AH → Nat → Int32 → Option (AH)} (H0 : ∀ (T : State) (A : AH) (cells slots : Nat), On p l e own_R9 s m args below meth c own_D Z n0 T A cells slots → ∀ (o0 : Nat) (i1 : Int32) (x2 : Slot) (hx2 : One x2) (x3 : Slot) (hx3 : One x3) (_u : Unit), cells + 0 ≤ 0 → slots + 0 ≤ 0 → ∀ q, rec0 A o0 i1 = some q → Go p e below (T.setTop (mkF m 0 #[.val (.ref (n0 + o0)), .val (.int i1), x2, x3] [])) (Fini own_D Z n0 s own_R9 none q)) (X : On p l e own_R9 s m args below meth c own_D Z n0 T A cells slots) (o0 : Nat) (i1 : Int32) (i2 : Int32) (i3 : Int32) (hc : cells + 0 ≤ 0) (hs : slots + 0 ≤ 0) {q : AH} (hf : f9_111 rec0 A o0 i1 = some q) :
    Go p e below (T.setTop (mkF m 111 #[.val (.ref (n0 + o0)), .val (.int i1), .val (.int i2), .val (.int i3)] [])) (Fini own_D Z n0 s own_R9 none q) := by
  unfold f9_111 at hf
  refine i_goto (pc' := 0) K X d9_111 (by decide) (by decide) ?_
  exact H0 _ _ _ _ X o0 i1 (.val (.int i2)) (One.val rfl) (.val (.int i3)) (One.val rfl) () (show cells + 0 ≤ 0 by omega) (show slots + 0 ≤ 0 by omega) _ hf
def f9_87 (rec0 : AH → Nat → Int32 → Option (AH)) (A : AH) (o0 : Nat) (i1 : Int32) (s0 : Int32) (s1 : Int32) (r2 : Nat) : Option (AH) :=
  (h_aset A 4 r2 s1 (.int (nar .boolean s0))).bind fun A1 =>
  (asR (h_fget A1 10 o0 0)).bind fun v2 =>
  (asI (h_fget A1 10 o0 6)).bind fun v3 =>
  (asI (h_aget A1 0 v2 (v3 + (4 : Int32)))).bind fun v4 =>
  if v4 < (0 : Int32) then (f9_111 rec0 A1 o0 i1)
  else ((asR (h_fget A1 10 o0 2)).bind fun v5 =>
  (h_aset A1 0 v5 v4 (.int v4)).bind fun A6 =>
  f9_111 rec0 A6 o0 i1)
set_option maxRecDepth 65536 in
set_option maxHeartbeats 4000000 in
theorem w9_87 (K : Cx p l e own_R9 s m meth c Z a0 tables_1 "com/example/thabiti/thabiti/core/Bindings" "undo" prog_8_method_5_code 4 none) (sep : ∀ t, Sep Z (own_D t).2) {rec0 : AH → Nat → Int32 → Option (AH)} (H0 : ∀ (T : State) (A : AH) (cells slots : Nat), On p l e own_R9 s m args below meth c own_D Z n0 T A cells slots → ∀ (o0 : Nat) (i1 : Int32) (x2 : Slot) (hx2 : One x2) (x3 : Slot) (hx3 : One x3) (_u : Unit), cells + 0 ≤ 0 → slots + 0 ≤ 0 → ∀ q, rec0 A o0 i1 = some q → Go p e below (T.setTop (mkF m 0 #[.val (.ref (n0 + o0)), .val (.int i1), x2, x3] [])) (Fini own_D Z n0 s own_R9 none q)) (X : On p l e own_R9 s m args below meth c own_D Z n0 T A cells slots) (o0 : Nat) (i1 : Int32) (i2 : Int32) (x3 : Slot) (hx3 : One x3) (s0 : Int32) (s1 : Int32) (r2 : Nat) (hc : cells + 0 ≤ 0) (hs : slots + 0 ≤ 0) {q : AH} (hf : f9_87 rec0 A o0 i1 s0 s1 r2 = some q) :
    Go p e below (T.setTop (mkF m 87 #[.val (.ref (n0 + o0)), .val (.int i1), .val (.int i2), x3] [(.int s0), (.int s1), (.ref (n0 + r2))])) (Fini own_D Z n0 s own_R9 none q) := by
  unfold f9_87 at hf
  obtain ⟨A1, g1, hf⟩ := bs hf
  refine ast4 (pc' := 88) K X g1 d9_87 rfl (fun T1 X1 => ?_)
  refine i_aloadN (pc' := 89) K X1 d9_88 rfl rfl rfl ?_
  obtain ⟨v2, g2, hf⟩ := bs hf
  refine getfR (pc' := 92) K X1 (i := 10) rfl d9_89 (t := 10) (f := 0) (by decide) rfl g2 rfl (fun T2 X2 => ?_)
  refine i_aloadN (pc' := 93) K X2 d9_92 rfl rfl rfl ?_
  obtain ⟨v3, g3, hf⟩ := bs hf
  refine getfI (pc' := 96) K X2 (i := 53) rfl d9_93 (t := 10) (f := 6) (by decide) rfl g3 rfl (fun T3 X3 => ?_)
  refine i_iconst (pc' := 97) (v := (4 : Int32)) K X3 d9_96 rfl rfl ?_
  refine i_iadd (pc' := 98) K X3 d9_97 rfl ?_
  obtain ⟨v4, g4, hf⟩ := bs hf
  refine ld0 (pc' := 99) K X3 g4 d9_98 rfl ?_
  refine i_istoreN (pc' := 100) (Ls' := #[.val (.ref (n0 + o0)), .val (.int i1), .val (.int i2), .val (.int v4)]) K X3 d9_99 rfl (stOne hx3 rfl rfl rfl) ?_
  refine i_iloadN (pc' := 101) K X3 d9_100 rfl rfl ?_
  by_cases hc101 : v4 < (0 : Int32)
  · rw [if_pos hc101] at hf
    refine i_ifYes (pc' := 111) K X3 d9_101 (tlt hc101).1 (by decide) (by decide) ?_
    exact w9_111 K sep H0 X3 o0 i1 i2 v4 (show cells + 0 ≤ 0 by omega) (show slots + 0 ≤ 0 by omega) hf
  · rw [if_neg hc101] at hf
    refine i_ifNo (pc' := 104) K X3 d9_101 rfl (flt hc101).1 ?_
    refine i_aloadN (pc' := 105) K X3 d9_104 rfl rfl rfl ?_
    obtain ⟨v5, g5, hf⟩ := bs hf
    refine getfR (pc' := 108) K X3 (i := 14) rfl d9_105 (t := 10) (f := 2) (by decide) rfl g5 rfl (fun T5 X5 => ?_)
    refine i_iloadN (pc' := 109) K X5 d9_108 rfl rfl ?_
    refine i_iloadN (pc' := 110) K X5 d9_109 rfl rfl ?_
    obtain ⟨A6, g6, hf⟩ := bs hf
    refine ast0 (pc' := 111) K X5 g6 d9_110 rfl (fun T6 X6 => ?_)
    exact w9_111 K sep H0 X6 o0 i1 i2 v4 (show cells + 0 ≤ 0 by omega) (show slots + 0 ≤ 0 by omega) hf
def f9_78 (rec0 : AH → Nat → Int32 → Option (AH)) (A : AH) (o0 : Nat) (i1 : Int32) (s0 : Int32) (s1 : Int32) (r2 : Nat) : Option (AH) :=
  if s0 = (1 : Int32) then (f9_87 rec0 A o0 i1 (1 : Int32) s1 r2)
  else (f9_87 rec0 A o0 i1 (0 : Int32) s1 r2)
set_option maxRecDepth 65536 in
set_option maxHeartbeats 4000000 in
theorem w9_78 (K : Cx p l e own_R9 s m meth c Z a0 tables_1 "com/example/thabiti/thabiti/core/Bindings" "undo" prog_8_method_5_code 4 none) (sep : ∀ t, Sep Z (own_D t).2) {rec0 : AH → Nat → Int32 → Option (AH)} (H0 : ∀ (T : State) (A : AH) (cells slots : Nat), On p l e own_R9 s m args below meth c own_D Z n0 T A cells slots → ∀ (o0 : Nat) (i1 : Int32) (x2 : Slot) (hx2 : One x2) (x3 : Slot) (hx3 : One x3) (_u : Unit), cells + 0 ≤ 0 → slots + 0 ≤ 0 → ∀ q, rec0 A o0 i1 = some q → Go p e below (T.setTop (mkF m 0 #[.val (.ref (n0 + o0)), .val (.int i1), x2, x3] [])) (Fini own_D Z n0 s own_R9 none q)) (X : On p l e own_R9 s m args below meth c own_D Z n0 T A cells slots) (o0 : Nat) (i1 : Int32) (i2 : Int32) (x3 : Slot) (hx3 : One x3) (s0 : Int32) (s1 : Int32) (r2 : Nat) (hc : cells + 0 ≤ 0) (hs : slots + 0 ≤ 0) {q : AH} (hf : f9_78 rec0 A o0 i1 s0 s1 r2 = some q) :
    Go p e below (T.setTop (mkF m 78 #[.val (.ref (n0 + o0)), .val (.int i1), .val (.int i2), x3] [(.int s0), (.int s1), (.ref (n0 + r2))])) (Fini own_D Z n0 s own_R9 none q) := by
  unfold f9_78 at hf
  refine i_iconst (pc' := 79) (v := (1 : Int32)) K X d9_78 rfl rfl ?_
  by_cases hc79 : s0 = (1 : Int32)
  · rw [if_pos hc79] at hf
    refine i_icmpNo (pc' := 82) K X d9_79 rfl (teq hc79).2 ?_
    refine i_iconst (pc' := 83) (v := (1 : Int32)) K X d9_82 rfl rfl ?_
    refine i_goto (pc' := 87) K X d9_83 (by decide) (by decide) ?_
    exact w9_87 K sep H0 X o0 i1 i2 x3 hx3 (1 : Int32) s1 r2 (show cells + 0 ≤ 0 by omega) (show slots + 0 ≤ 0 by omega) hf
  · rw [if_neg hc79] at hf
    refine i_icmpYes (pc' := 86) K X d9_79 (feq hc79).2 (by decide) (by decide) ?_
    refine i_iconst (pc' := 87) (v := (0 : Int32)) K X d9_86 rfl rfl ?_
    exact w9_87 K sep H0 X o0 i1 i2 x3 hx3 (0 : Int32) s1 r2 (show cells + 0 ≤ 0 by omega) (show slots + 0 ≤ 0 by omega) hf
def f9_54 (rec0 : AH → Nat → Int32 → Option (AH)) (A : AH) (o0 : Nat) (i1 : Int32) (i2 : Int32) (r0 : Nat) (s1 : Int32) (r2 : Nat) : Option (AH) :=
  (asI (h_fget A 10 o0 6)).bind fun v1 =>
  (asI (h_aget A 0 r0 (v1 + (2 : Int32)))).bind fun v2 =>
  (h_aset A 0 r2 s1 (.int v2)).bind fun A3 =>
  (asR (h_fget A3 10 o0 5)).bind fun v4 =>
  (asR (h_fget A3 10 o0 0)).bind fun v5 =>
  (asI (h_fget A3 10 o0 6)).bind fun v6 =>
  (asI (h_aget A3 0 v5 (v6 + (3 : Int32)))).bind fun v7 =>
  f9_78 rec0 A3 o0 i1 v7 i2 v4
set_option maxRecDepth 65536 in
set_option maxHeartbeats 4000000 in
theorem w9_54 (K : Cx p l e own_R9 s m meth c Z a0 tables_1 "com/example/thabiti/thabiti/core/Bindings" "undo" prog_8_method_5_code 4 none) (sep : ∀ t, Sep Z (own_D t).2) {rec0 : AH → Nat → Int32 → Option (AH)} (H0 : ∀ (T : State) (A : AH) (cells slots : Nat), On p l e own_R9 s m args below meth c own_D Z n0 T A cells slots → ∀ (o0 : Nat) (i1 : Int32) (x2 : Slot) (hx2 : One x2) (x3 : Slot) (hx3 : One x3) (_u : Unit), cells + 0 ≤ 0 → slots + 0 ≤ 0 → ∀ q, rec0 A o0 i1 = some q → Go p e below (T.setTop (mkF m 0 #[.val (.ref (n0 + o0)), .val (.int i1), x2, x3] [])) (Fini own_D Z n0 s own_R9 none q)) (X : On p l e own_R9 s m args below meth c own_D Z n0 T A cells slots) (o0 : Nat) (i1 : Int32) (i2 : Int32) (x3 : Slot) (hx3 : One x3) (r0 : Nat) (s1 : Int32) (r2 : Nat) (hc : cells + 0 ≤ 0) (hs : slots + 0 ≤ 0) {q : AH} (hf : f9_54 rec0 A o0 i1 i2 r0 s1 r2 = some q) :
    Go p e below (T.setTop (mkF m 54 #[.val (.ref (n0 + o0)), .val (.int i1), .val (.int i2), x3] [(.ref (n0 + r0)), (.int s1), (.ref (n0 + r2))])) (Fini own_D Z n0 s own_R9 none q) := by
  unfold f9_54 at hf
  refine i_aloadN (pc' := 55) K X d9_54 rfl rfl rfl ?_
  obtain ⟨v1, g1, hf⟩ := bs hf
  refine getfI (pc' := 58) K X (i := 53) rfl d9_55 (t := 10) (f := 6) (by decide) rfl g1 rfl (fun T1 X1 => ?_)
  refine i_iconst (pc' := 59) (v := (2 : Int32)) K X1 d9_58 rfl rfl ?_
  refine i_iadd (pc' := 60) K X1 d9_59 rfl ?_
  obtain ⟨v2, g2, hf⟩ := bs hf
  refine ld0 (pc' := 61) K X1 g2 d9_60 rfl ?_
  obtain ⟨A3, g3, hf⟩ := bs hf
  refine ast0 (pc' := 62) K X1 g3 d9_61 rfl (fun T3 X3 => ?_)
  refine i_aloadN (pc' := 63) K X3 d9_62 rfl rfl rfl ?_
  obtain ⟨v4, g4, hf⟩ := bs hf
  refine getfR (pc' := 66) K X3 (i := 21) rfl d9_63 (t := 10) (f := 5) (by decide) rfl g4 rfl (fun T4 X4 => ?_)
  refine i_iloadN (pc' := 67) K X4 d9_66 rfl rfl ?_
  refine i_aloadN (pc' := 68) K X4 d9_67 rfl rfl rfl ?_
  obtain ⟨v5, g5, hf⟩ := bs hf
  refine getfR (pc' := 71) K X4 (i := 10) rfl d9_68 (t := 10) (f := 0) (by decide) rfl g5 rfl (fun T5 X5 => ?_)
  refine i_aloadN (pc' := 72) K X5 d9_71 rfl rfl rfl ?_
  obtain ⟨v6, g6, hf⟩ := bs hf
  refine getfI (pc' := 75) K X5 (i := 53) rfl d9_72 (t := 10) (f := 6) (by decide) rfl g6 rfl (fun T6 X6 => ?_)
  refine i_iconst (pc' := 76) (v := (3 : Int32)) K X6 d9_75 rfl rfl ?_
  refine i_iadd (pc' := 77) K X6 d9_76 rfl ?_
  obtain ⟨v7, g7, hf⟩ := bs hf
  refine ld0 (pc' := 78) K X6 g7 d9_77 rfl ?_
  exact w9_78 K sep H0 X6 o0 i1 i2 x3 hx3 v7 i2 v4 (show cells + 0 ≤ 0 by omega) (show slots + 0 ≤ 0 by omega) hf
def f9_28 (rec0 : AH → Nat → Int32 → Option (AH)) (A : AH) (o0 : Nat) (i1 : Int32) (i2 : Int32) : Option (AH) :=
  (asR (h_fget A 10 o0 3)).bind fun v1 =>
  (asR (h_fget A 10 o0 0)).bind fun v2 =>
  (asI (h_fget A 10 o0 6)).bind fun v3 =>
  (asI (h_aget A 0 v2 (v3 + (1 : Int32)))).bind fun v4 =>
  (h_aset A 0 v1 i2 (.int v4)).bind fun A5 =>
  (asR (h_fget A5 10 o0 4)).bind fun v6 =>
  (asR (h_fget A5 10 o0 0)).bind fun v7 =>
  f9_54 rec0 A5 o0 i1 i2 v7 i2 v6
set_option maxRecDepth 65536 in
set_option maxHeartbeats 4000000 in
theorem w9_28 (K : Cx p l e own_R9 s m meth c Z a0 tables_1 "com/example/thabiti/thabiti/core/Bindings" "undo" prog_8_method_5_code 4 none) (sep : ∀ t, Sep Z (own_D t).2) {rec0 : AH → Nat → Int32 → Option (AH)} (H0 : ∀ (T : State) (A : AH) (cells slots : Nat), On p l e own_R9 s m args below meth c own_D Z n0 T A cells slots → ∀ (o0 : Nat) (i1 : Int32) (x2 : Slot) (hx2 : One x2) (x3 : Slot) (hx3 : One x3) (_u : Unit), cells + 0 ≤ 0 → slots + 0 ≤ 0 → ∀ q, rec0 A o0 i1 = some q → Go p e below (T.setTop (mkF m 0 #[.val (.ref (n0 + o0)), .val (.int i1), x2, x3] [])) (Fini own_D Z n0 s own_R9 none q)) (X : On p l e own_R9 s m args below meth c own_D Z n0 T A cells slots) (o0 : Nat) (i1 : Int32) (i2 : Int32) (x3 : Slot) (hx3 : One x3) (hc : cells + 0 ≤ 0) (hs : slots + 0 ≤ 0) {q : AH} (hf : f9_28 rec0 A o0 i1 i2 = some q) :
    Go p e below (T.setTop (mkF m 28 #[.val (.ref (n0 + o0)), .val (.int i1), .val (.int i2), x3] [])) (Fini own_D Z n0 s own_R9 none q) := by
  unfold f9_28 at hf
  refine i_aloadN (pc' := 29) K X d9_28 rfl rfl rfl ?_
  obtain ⟨v1, g1, hf⟩ := bs hf
  refine getfR (pc' := 32) K X (i := 16) rfl d9_29 (t := 10) (f := 3) (by decide) rfl g1 rfl (fun T1 X1 => ?_)
  refine i_iloadN (pc' := 33) K X1 d9_32 rfl rfl ?_
  refine i_aloadN (pc' := 34) K X1 d9_33 rfl rfl rfl ?_
  obtain ⟨v2, g2, hf⟩ := bs hf
  refine getfR (pc' := 37) K X1 (i := 10) rfl d9_34 (t := 10) (f := 0) (by decide) rfl g2 rfl (fun T2 X2 => ?_)
  refine i_aloadN (pc' := 38) K X2 d9_37 rfl rfl rfl ?_
  obtain ⟨v3, g3, hf⟩ := bs hf
  refine getfI (pc' := 41) K X2 (i := 53) rfl d9_38 (t := 10) (f := 6) (by decide) rfl g3 rfl (fun T3 X3 => ?_)
  refine i_iconst (pc' := 42) (v := (1 : Int32)) K X3 d9_41 rfl rfl ?_
  refine i_iadd (pc' := 43) K X3 d9_42 rfl ?_
  obtain ⟨v4, g4, hf⟩ := bs hf
  refine ld0 (pc' := 44) K X3 g4 d9_43 rfl ?_
  obtain ⟨A5, g5, hf⟩ := bs hf
  refine ast0 (pc' := 45) K X3 g5 d9_44 rfl (fun T5 X5 => ?_)
  refine i_aloadN (pc' := 46) K X5 d9_45 rfl rfl rfl ?_
  obtain ⟨v6, g6, hf⟩ := bs hf
  refine getfR (pc' := 49) K X5 (i := 18) rfl d9_46 (t := 10) (f := 4) (by decide) rfl g6 rfl (fun T6 X6 => ?_)
  refine i_iloadN (pc' := 50) K X6 d9_49 rfl rfl ?_
  refine i_aloadN (pc' := 51) K X6 d9_50 rfl rfl rfl ?_
  obtain ⟨v7, g7, hf⟩ := bs hf
  refine getfR (pc' := 54) K X6 (i := 10) rfl d9_51 (t := 10) (f := 0) (by decide) rfl g7 rfl (fun T7 X7 => ?_)
  exact w9_54 K sep H0 X7 o0 i1 i2 x3 hx3 v7 i2 v6 (show cells + 0 ≤ 0 by omega) (show slots + 0 ≤ 0 by omega) hf
def g9_0 (rec0 : AH → Nat → Int32 → Option (AH)) (A : AH) (o0 : Nat) (i1 : Int32) : Option (AH) :=
  (asI (h_fget A 10 o0 6)).bind fun v1 =>
  if i1 < v1 then ((asI (h_fget A 10 o0 6)).bind fun v2 =>
  (h_fset A 10 o0 6 (.int (v2 - (5 : Int32)))).bind fun A3 =>
  (asR (h_fget A3 10 o0 0)).bind fun v4 =>
  (asI (h_fget A3 10 o0 6)).bind fun v5 =>
  (asI (h_aget A3 0 v4 v5)).bind fun v6 =>
  f9_28 rec0 A3 o0 i1 v6)
  else (some A)
set_option maxRecDepth 65536 in
set_option maxHeartbeats 4000000 in
theorem v9_0 (K : Cx p l e own_R9 s m meth c Z a0 tables_1 "com/example/thabiti/thabiti/core/Bindings" "undo" prog_8_method_5_code 4 none) (sep : ∀ t, Sep Z (own_D t).2) {rec0 : AH → Nat → Int32 → Option (AH)} (H0 : ∀ (T : State) (A : AH) (cells slots : Nat), On p l e own_R9 s m args below meth c own_D Z n0 T A cells slots → ∀ (o0 : Nat) (i1 : Int32) (x2 : Slot) (hx2 : One x2) (x3 : Slot) (hx3 : One x3) (_u : Unit), cells + 0 ≤ 0 → slots + 0 ≤ 0 → ∀ q, rec0 A o0 i1 = some q → Go p e below (T.setTop (mkF m 0 #[.val (.ref (n0 + o0)), .val (.int i1), x2, x3] [])) (Fini own_D Z n0 s own_R9 none q)) (X : On p l e own_R9 s m args below meth c own_D Z n0 T A cells slots) (o0 : Nat) (i1 : Int32) (x2 : Slot) (hx2 : One x2) (x3 : Slot) (hx3 : One x3) (hc : cells + 0 ≤ 0) (hs : slots + 0 ≤ 0) {q : AH} (hf : g9_0 rec0 A o0 i1 = some q) :
    Go p e below (T.setTop (mkF m 0 #[.val (.ref (n0 + o0)), .val (.int i1), x2, x3] [])) (Fini own_D Z n0 s own_R9 none q) := by
  unfold g9_0 at hf
  refine i_aloadN (pc' := 1) K X d9_0 rfl rfl rfl ?_
  obtain ⟨v1, g1, hf⟩ := bs hf
  refine getfI (pc' := 4) K X (i := 53) rfl d9_1 (t := 10) (f := 6) (by decide) rfl g1 rfl (fun T1 X1 => ?_)
  refine i_iloadN (pc' := 5) K X1 d9_4 rfl rfl ?_
  by_cases hc5 : i1 < v1
  · rw [if_pos hc5] at hf
    refine i_icmpNo (pc' := 8) K X1 d9_5 rfl (tlt hc5).2.2.2 ?_
    refine i_aloadN (pc' := 9) K X1 d9_8 rfl rfl rfl ?_
    refine i_dup (pc' := 10) K X1 d9_9 rfl rfl ?_
    obtain ⟨v2, g2, hf⟩ := bs hf
    refine getfI (pc' := 13) K X1 (i := 53) rfl d9_10 (t := 10) (f := 6) (by decide) rfl g2 rfl (fun T2 X2 => ?_)
    refine i_iconst (pc' := 14) (v := (5 : Int32)) K X2 d9_13 rfl rfl ?_
    refine i_isub (pc' := 15) K X2 d9_14 rfl ?_
    obtain ⟨A3, g3, hf⟩ := bs hf
    refine putf (pc' := 18) (va := (.int (v2 - (5 : Int32)))) K sep X2 (i := 53) rfl d9_15 (t := 10) (f := 6) (by decide) rfl (Or.inl (wd K (i := 54) rfl)) (i2 := 1) rfl (ty := .int) (by decide) rfl rfl g3 rfl (fun T3 X3 => ?_)
    refine i_aloadN (pc' := 19) K X3 d9_18 rfl rfl rfl ?_
    obtain ⟨v4, g4, hf⟩ := bs hf
    refine getfR (pc' := 22) K X3 (i := 10) rfl d9_19 (t := 10) (f := 0) (by decide) rfl g4 rfl (fun T4 X4 => ?_)
    refine i_aloadN (pc' := 23) K X4 d9_22 rfl rfl rfl ?_
    obtain ⟨v5, g5, hf⟩ := bs hf
    refine getfI (pc' := 26) K X4 (i := 53) rfl d9_23 (t := 10) (f := 6) (by decide) rfl g5 rfl (fun T5 X5 => ?_)
    obtain ⟨v6, g6, hf⟩ := bs hf
    refine ld0 (pc' := 27) K X5 g6 d9_26 rfl ?_
    refine i_istoreN (pc' := 28) (Ls' := #[.val (.ref (n0 + o0)), .val (.int i1), .val (.int v6), x3]) K X5 d9_27 rfl (stOne hx2 rfl rfl rfl) ?_
    exact w9_28 K sep H0 X5 o0 i1 v6 x3 hx3 (show cells + 0 ≤ 0 by omega) (show slots + 0 ≤ 0 by omega) hf
  · rw [if_neg hc5] at hf
    refine i_icmpYes (pc' := 114) K X1 d9_5 (flt hc5).2.2.2 (by decide) (by decide) ?_
    cases hf
    exact retV K X1 (show cells ≤ 0 by omega) (show slots ≤ 0 by omega) d9_114
def f9_0 : Nat → AH → Nat → Int32 → Option (AH)
  | 0 => fun _ _ _ => none
  | k + 1 => g9_0 (f9_0 k)
theorem w9_0 (K : Cx p l e own_R9 s m meth c Z a0 tables_1 "com/example/thabiti/thabiti/core/Bindings" "undo" prog_8_method_5_code 4 none) (sep : ∀ t, Sep Z (own_D t).2) : ∀ (k : Nat) (T : State) (A : AH) (cells slots : Nat), On p l e own_R9 s m args below meth c own_D Z n0 T A cells slots → ∀ (o0 : Nat) (i1 : Int32) (x2 : Slot) (hx2 : One x2) (x3 : Slot) (hx3 : One x3) (_u : Unit), cells + 0 ≤ 0 → slots + 0 ≤ 0 → ∀ q, f9_0 k A o0 i1 = some q → Go p e below (T.setTop (mkF m 0 #[.val (.ref (n0 + o0)), .val (.int i1), x2, x3] [])) (Fini own_D Z n0 s own_R9 none q) := by
  intro k
  induction k with
  | zero => intro T A cells slots X o0 i1 x2 hx2 x3 hx3 _ hc hs q hf; exact nomatch hf
  | succ k ih => intro T A cells slots X o0 i1 x2 hx2 x3 hx3 _ hc hs q hf; exact v9_0 K sep ih X o0 i1 x2 hx2 x3 hx3 hc hs hf
theorem pn_9 : plainName "com/example/thabiti/thabiti/core/Bindings" = true := by first | (simp [plainName, overriddenIn]; done) | decide +kernel
theorem rm9 {l : Launch} {Z : State} {a0 : Array Value} {n0 : Nat} (hw : ∀ d ∈ tables_1, d.before a0 Z = true) (A : AH) (o0 : Nat) (i1 : Int32) {q : AH} (hf : f9_0 8 A o0 i1 = some q) :
    Met l own_D Z n0 (⟨"com/example/thabiti/thabiti/core/Bindings", "undo", "(I)V"⟩ : MethodName) prog_8_method_5_code 4 none own_R9 [(.ref (n0 + o0)), (.int i1)] A none q :=
  met (W := tables_1) (a0 := a0) (own := "com/example/thabiti/thabiti/core/Bindings") (nm := "undo") (L0 := #[.val (.ref (n0 + o0)), .val (.int i1), .unset, .unset]) (plainFor_of_name pn_9) hw rfl rfl (fun m => by first | (simp [entryFrame, mkF, argsToLocals, Value.category]; done) | rfl) (fun p e s m below meth c T K X => w9_0 K (own_sep hw) 8 T A 0 0 X o0 i1 .unset One.u .unset One.u () (show 0 + 0 ≤ 0 by decide) (show 0 + 0 ≤ 0 by decide) _ hf)
/-! body 15: Bindings.value(I)I -/
theorem d15_0 : decode prog_8_method_3_code 0 = .ok (.iconst (-1), 1) := by decide +kernel
theorem d15_1 : decode prog_8_method_3_code 1 = .ok (.iload_n 0, 1) := by decide +kernel
theorem d15_2 : decode prog_8_method_3_code 2 = .ok (.isub, 1) := by decide +kernel
theorem d15_3 : decode prog_8_method_3_code 3 = .ok (.ireturn, 1) := by decide +kernel
theorem pd_15 : parseMethodDescriptor "(I)I" = some ⟨[.int], some .int⟩ := by decide +kernel
abbrev own_R15 : Room := { frames := 0, cells := 0, slots := 0, locals := 0 }
def f15_0 (i0 : Int32) : Int32 :=
  ((-1 : Int32) - i0)
set_option maxRecDepth 65536 in
set_option maxHeartbeats 4000000 in
theorem w15_0 (K : Cx p l e own_R15 s m meth c Z a0 tables_1 "com/example/thabiti/thabiti/core/Bindings" "value" prog_8_method_3_code 1 (some .int)) (X : On p l e own_R15 s m args below meth c own_D Z n0 T A cells slots) (i0 : Int32) (hc : cells + 0 ≤ 0) (hs : slots + 0 ≤ 0) :
    Go p e below (T.setTop (mkF m 0 #[.val (.int i0)] [])) (Fini own_D Z n0 s own_R15 (some (.int (f15_0 i0))) A) := by
  unfold f15_0
  refine i_iconst (pc' := 1) (v := (-1 : Int32)) K X d15_0 rfl rfl ?_
  refine i_iloadN (pc' := 2) K X d15_1 rfl rfl ?_
  refine i_isub (pc' := 3) K X d15_2 rfl ?_
  exact retI K X (show cells ≤ 0 by omega) (show slots ≤ 0 by omega) d15_3
theorem pn_15 : plainName "com/example/thabiti/thabiti/core/Bindings" = true := by first | (simp [plainName, overriddenIn]; done) | decide +kernel
theorem rm15 {l : Launch} {Z : State} {a0 : Array Value} {n0 : Nat} (hw : ∀ d ∈ tables_1, d.before a0 Z = true) (A : AH) (i0 : Int32) :
    Met l own_D Z n0 (⟨"com/example/thabiti/thabiti/core/Bindings", "value", "(I)I"⟩ : MethodName) prog_8_method_3_code 1 (some .int) own_R15 [(.int i0)] A (some (.int (f15_0 i0))) A :=
  met (W := tables_1) (a0 := a0) (own := "com/example/thabiti/thabiti/core/Bindings") (nm := "value") (L0 := #[.val (.int i0)]) (plainFor_of_name pn_15) hw rfl rfl (fun m => by first | (simp [entryFrame, mkF, argsToLocals, Value.category]; done) | rfl) (fun p e s m below meth c T K X => w15_0 K X i0 (show 0 + 0 ≤ 0 by decide) (show 0 + 0 ≤ 0 by decide))
/-! body 12: Bindings.isConstant(I)Z -/
theorem d12_0 : decode prog_8_method_8_code 0 = .ok (.aload_n 0, 1) := by decide +kernel
theorem d12_1 : decode prog_8_method_8_code 1 = .ok (.iload_n 1, 1) := by decide +kernel
theorem d12_2 : decode prog_8_method_8_code 2 = .ok (.invokevirtual 40, 3) := by decide +kernel
theorem d12_5 : decode prog_8_method_8_code 5 = .ok (.istore_n 2, 1) := by decide +kernel
theorem d12_6 : decode prog_8_method_8_code 6 = .ok (.iload_n 2, 1) := by decide +kernel
theorem d12_7 : decode prog_8_method_8_code 7 = .ok (.ifCond .ge 22, 3) := by decide +kernel
theorem d12_10 : decode prog_8_method_8_code 10 = .ok (.iload_n 2, 1) := by decide +kernel
theorem d12_11 : decode prog_8_method_8_code 11 = .ok (.invokestatic 43, 3) := by decide +kernel
theorem d12_14 : decode prog_8_method_8_code 14 = .ok (.aload_n 0, 1) := by decide +kernel
theorem d12_15 : decode prog_8_method_8_code 15 = .ok (.getfield 13, 3) := by decide +kernel
theorem d12_18 : decode prog_8_method_8_code 18 = .ok (.if_icmp .ge 7, 3) := by decide +kernel
theorem d12_21 : decode prog_8_method_8_code 21 = .ok (.iconst 1, 1) := by decide +kernel
theorem d12_22 : decode prog_8_method_8_code 22 = .ok (.goto 13, 3) := by decide +kernel
theorem d12_25 : decode prog_8_method_8_code 25 = .ok (.iconst 0, 1) := by decide +kernel
theorem d12_26 : decode prog_8_method_8_code 26 = .ok (.goto 9, 3) := by decide +kernel
theorem d12_29 : decode prog_8_method_8_code 29 = .ok (.aload_n 0, 1) := by decide +kernel
theorem d12_30 : decode prog_8_method_8_code 30 = .ok (.getfield 26, 3) := by decide +kernel
theorem d12_33 : decode prog_8_method_8_code 33 = .ok (.iload_n 2, 1) := by decide +kernel
theorem d12_34 : decode prog_8_method_8_code 34 = .ok (.baload, 1) := by decide +kernel
theorem d12_35 : decode prog_8_method_8_code 35 = .ok (.ireturn, 1) := by decide +kernel
theorem pd_12 : parseMethodDescriptor "(I)Z" = some ⟨[.int], some .boolean⟩ := by decide +kernel
abbrev own_R12 : Room := { frames := 2, cells := 0, slots := 0, locals := 29 }
def f12_35 (A : AH) (s0 : Int32) : Option (Int32 × AH) :=
  some ((nar .boolean s0), A)
set_option maxRecDepth 65536 in
set_option maxHeartbeats 4000000 in
theorem w12_35 (K : Cx p l e own_R12 s m meth c Z a0 tables_1 "com/example/thabiti/thabiti/core/Bindings" "isConstant" prog_8_method_8_code 3 (some .boolean)) (sep : ∀ t, Sep Z (own_D t).2) (X : On p l e own_R12 s m args below meth c own_D Z n0 T A cells slots) (o0 : Nat) (i1 : Int32) (i2 : Int32) (s0 : Int32) (hc : cells + 0 ≤ 0) (hs : slots + 0 ≤ 0) {q : Int32 × AH} (hf : f12_35 A s0 = some q) :
    Go p e below (T.setTop (mkF m 35 #[.val (.ref (n0 + o0)), .val (.int i1), .val (.int i2)] [(.int s0)])) (Fini own_D Z n0 s own_R12 (some (.int q.1)) q.2) := by
  unfold f12_35 at hf
  cases hf
  exact retB K (by simp) X (show cells ≤ 0 by omega) (show slots ≤ 0 by omega) d12_35
def f12_0 (A : AH) (o0 : Nat) (i1 : Int32) : Option (Int32 × AH) :=
  (h_isA A 10 o0).bind fun y2 =>
  (f5_0 A o0 i1).bind fun q1 =>
  if q1.1 < (0 : Int32) then ((asI (h_fget q1.2 10 o0 1)).bind fun v6 =>
  if (f15_0 q1.1) < v6 then (f12_35 q1.2 (1 : Int32))
  else (f12_35 q1.2 (0 : Int32)))
  else ((asR (h_fget q1.2 10 o0 5)).bind fun v3 =>
  (asI (h_aget q1.2 4 v3 q1.1)).bind fun v4 =>
  f12_35 q1.2 v4)
set_option maxRecDepth 65536 in
set_option maxHeartbeats 4000000 in
theorem w12_0 (K : Cx p l e own_R12 s m meth c Z a0 tables_1 "com/example/thabiti/thabiti/core/Bindings" "isConstant" prog_8_method_8_code 3 (some .boolean)) (sep : ∀ t, Sep Z (own_D t).2) (X : On p l e own_R12 s m args below meth c own_D Z n0 T A cells slots) (o0 : Nat) (i1 : Int32) (hc : cells + 0 ≤ 0) (hs : slots + 0 ≤ 0) {q : Int32 × AH} (hf : f12_0 A o0 i1 = some q) :
    Go p e below (T.setTop (mkF m 0 #[.val (.ref (n0 + o0)), .val (.int i1), .unset] [])) (Fini own_D Z n0 s own_R12 (some (.int q.1)) q.2) := by
  unfold f12_0 at hf
  refine i_aloadN (pc' := 1) K X d12_0 rfl rfl rfl ?_
  refine i_iloadN (pc' := 2) K X d12_1 rfl rfl ?_
  obtain ⟨y2, g2, hf⟩ := bs hf
  obtain ⟨q1, g1, hf⟩ := bs hf
  refine callv (pc' := 5) (kc := cells) (ks := slots) (S' := [(.int q1.1)]) (st := []) K X (i1 := 35) rfl (i2 := 36) rfl (i5 := 38) (t := 10) rfl (i6 := 37) rfl (i3 := 2) rfl (i4 := 39) rfl (by decide) (by decide) g2 (rm5 (l := l) (n0 := n0) (K.2.2.2.2.2.2.2.2) A o0 i1 g1) pd_5 rfl d12_2 rfl rfl (by decide) (w := 0) (Nat.le_of_eq rfl) (by decide) (show cells + 0 ≤ 0 by omega) (show slots + 0 ≤ 0 by omega) rfl rfl rfl rfl (fun T1 X1 => ?_)
  refine i_istoreN (pc' := 6) (Ls' := #[.val (.ref (n0 + o0)), .val (.int i1), .val (.int q1.1)]) K X1 d12_5 rfl rfl ?_
  refine i_iloadN (pc' := 7) K X1 d12_6 rfl rfl ?_
  by_cases hc7 : q1.1 < (0 : Int32)
  · rw [if_pos hc7] at hf
    refine i_ifNo (pc' := 10) K X1 d12_7 rfl (tlt hc7).2.1 ?_
    refine i_iloadN (pc' := 11) K X1 d12_10 rfl rfl ?_
    refine calls (pc' := 14) (kc := cells) (ks := slots) (S' := [(.int (f15_0 q1.1))]) (st := []) K X1 (i1 := 81) rfl (i2 := 82) rfl (i3 := 2) rfl (i4 := 83) rfl (by decide) (rm15 (l := l) (n0 := n0) (K.2.2.2.2.2.2.2.2) q1.2 q1.1) pd_15 rfl d12_11 rfl rfl (by decide) (w := 0) (Nat.le_of_eq rfl) (by decide) (show cells + 0 ≤ 0 by omega) (show slots + 0 ≤ 0 by omega) rfl rfl rfl rfl (fun T5 X5 => ?_)
    refine i_aloadN (pc' := 15) K X5 d12_14 rfl rfl rfl ?_
    obtain ⟨v6, g6, hf⟩ := bs hf
    refine getfI (pc' := 18) K X5 (i := 12) rfl d12_15 (t := 10) (f := 1) (by decide) rfl g6 rfl (fun T6 X6 => ?_)
    by_cases hc18 : (f15_0 q1.1) < v6
    · rw [if_pos hc18] at hf
      refine i_icmpNo (pc' := 21) K X6 d12_18 rfl (tlt hc18).2.1 ?_
      refine i_iconst (pc' := 22) (v := (1 : Int32)) K X6 d12_21 rfl rfl ?_
      refine i_goto (pc' := 35) K X6 d12_22 (by decide) (by decide) ?_
      exact w12_35 K sep X6 o0 i1 q1.1 (1 : Int32) (show cells + 0 ≤ 0 by omega) (show slots + 0 ≤ 0 by omega) hf
    · rw [if_neg hc18] at hf
      refine i_icmpYes (pc' := 25) K X6 d12_18 (flt hc18).2.1 (by decide) (by decide) ?_
      refine i_iconst (pc' := 26) (v := (0 : Int32)) K X6 d12_25 rfl rfl ?_
      refine i_goto (pc' := 35) K X6 d12_26 (by decide) (by decide) ?_
      exact w12_35 K sep X6 o0 i1 q1.1 (0 : Int32) (show cells + 0 ≤ 0 by omega) (show slots + 0 ≤ 0 by omega) hf
  · rw [if_neg hc7] at hf
    refine i_ifYes (pc' := 29) K X1 d12_7 (flt hc7).2.1 (by decide) (by decide) ?_
    refine i_aloadN (pc' := 30) K X1 d12_29 rfl rfl rfl ?_
    obtain ⟨v3, g3, hf⟩ := bs hf
    refine getfR (pc' := 33) K X1 (i := 21) rfl d12_30 (t := 10) (f := 5) (by decide) rfl g3 rfl (fun T3 X3 => ?_)
    refine i_iloadN (pc' := 34) K X3 d12_33 rfl rfl ?_
    obtain ⟨v4, g4, hf⟩ := bs hf
    refine ld4 (pc' := 35) K X3 g4 d12_34 rfl ?_
    exact w12_35 K sep X3 o0 i1 q1.1 v4 (show cells + 0 ≤ 0 by omega) (show slots + 0 ≤ 0 by omega) hf
theorem pn_12 : plainName "com/example/thabiti/thabiti/core/Bindings" = true := by first | (simp [plainName, overriddenIn]; done) | decide +kernel
theorem rm12 {l : Launch} {Z : State} {a0 : Array Value} {n0 : Nat} (hw : ∀ d ∈ tables_1, d.before a0 Z = true) (A : AH) (o0 : Nat) (i1 : Int32) {q : Int32 × AH} (hf : f12_0 A o0 i1 = some q) :
    Met l own_D Z n0 (⟨"com/example/thabiti/thabiti/core/Bindings", "isConstant", "(I)Z"⟩ : MethodName) prog_8_method_8_code 3 (some .boolean) own_R12 [(.ref (n0 + o0)), (.int i1)] A (some (.int q.1)) q.2 :=
  met (W := tables_1) (a0 := a0) (own := "com/example/thabiti/thabiti/core/Bindings") (nm := "isConstant") (L0 := #[.val (.ref (n0 + o0)), .val (.int i1), .unset]) (plainFor_of_name pn_12) hw rfl rfl (fun m => by first | (simp [entryFrame, mkF, argsToLocals, Value.category]; done) | rfl) (fun p e s m below meth c T K X => w12_0 K (own_sep hw) X o0 i1 (show 0 + 0 ≤ 0 by decide) (show 0 + 0 ≤ 0 by decide) hf)
/-! body 10: BindingsUndoPinLaw.snap(Lcom/example/thabiti/thabiti/core/Bindings;)I -/
theorem d10_0 : decode method_5_code 0 = .ok (.aload_n 0, 1) := by decide +kernel
theorem d10_1 : decode method_5_code 1 = .ok (.iconst 0, 1) := by decide +kernel
theorem d10_2 : decode method_5_code 2 = .ok (.invokevirtual 42, 3) := by decide +kernel
theorem d10_5 : decode method_5_code 5 = .ok (.iconst 3, 1) := by decide +kernel
theorem d10_6 : decode method_5_code 6 = .ok (.iadd, 1) := by decide +kernel
theorem d10_7 : decode method_5_code 7 = .ok (.istore_n 1, 1) := by decide +kernel
theorem d10_8 : decode method_5_code 8 = .ok (.iload_n 1, 1) := by decide +kernel
theorem d10_9 : decode method_5_code 9 = .ok (.aload_n 0, 1) := by decide +kernel
theorem d10_10 : decode method_5_code 10 = .ok (.iconst 1, 1) := by decide +kernel
theorem d10_11 : decode method_5_code 11 = .ok (.invokevirtual 42, 3) := by decide +kernel
theorem d10_14 : decode method_5_code 14 = .ok (.iconst 3, 1) := by decide +kernel
theorem d10_15 : decode method_5_code 15 = .ok (.iadd, 1) := by decide +kernel
theorem d10_16 : decode method_5_code 16 = .ok (.iconst 3, 1) := by decide +kernel
theorem d10_17 : decode method_5_code 17 = .ok (.ishl, 1) := by decide +kernel
theorem d10_18 : decode method_5_code 18 = .ok (.ior, 1) := by decide +kernel
theorem d10_19 : decode method_5_code 19 = .ok (.istore_n 1, 1) := by decide +kernel
theorem d10_20 : decode method_5_code 20 = .ok (.iload_n 1, 1) := by decide +kernel
theorem d10_21 : decode method_5_code 21 = .ok (.aload_n 0, 1) := by decide +kernel
theorem d10_22 : decode method_5_code 22 = .ok (.iconst 2, 1) := by decide +kernel
theorem d10_23 : decode method_5_code 23 = .ok (.invokevirtual 42, 3) := by decide +kernel
theorem d10_26 : decode method_5_code 26 = .ok (.iconst 3, 1) := by decide +kernel
theorem d10_27 : decode method_5_code 27 = .ok (.iadd, 1) := by decide +kernel
theorem d10_28 : decode method_5_code 28 = .ok (.bipush 6, 2) := by decide +kernel
theorem d10_30 : decode method_5_code 30 = .ok (.ishl, 1) := by decide +kernel
theorem d10_31 : decode method_5_code 31 = .ok (.ior, 1) := by decide +kernel
theorem d10_32 : decode method_5_code 32 = .ok (.istore_n 1, 1) := by decide +kernel
theorem d10_33 : decode method_5_code 33 = .ok (.iload_n 1, 1) := by decide +kernel
theorem d10_34 : decode method_5_code 34 = .ok (.aload_n 0, 1) := by decide +kernel
theorem d10_35 : decode method_5_code 35 = .ok (.iconst 0, 1) := by decide +kernel
theorem d10_36 : decode method_5_code 36 = .ok (.invokevirtual 45, 3) := by decide +kernel
theorem d10_39 : decode method_5_code 39 = .ok (.ifCond .eq 9, 3) := by decide +kernel
theorem d10_42 : decode method_5_code 42 = .ok (.sipush 512, 3) := by decide +kernel
theorem d10_45 : decode method_5_code 45 = .ok (.goto 4, 3) := by decide +kernel
theorem d10_48 : decode method_5_code 48 = .ok (.iconst 0, 1) := by decide +kernel
theorem d10_49 : decode method_5_code 49 = .ok (.ior, 1) := by decide +kernel
theorem d10_50 : decode method_5_code 50 = .ok (.istore_n 1, 1) := by decide +kernel
theorem d10_51 : decode method_5_code 51 = .ok (.iload_n 1, 1) := by decide +kernel
theorem d10_52 : decode method_5_code 52 = .ok (.aload_n 0, 1) := by decide +kernel
theorem d10_53 : decode method_5_code 53 = .ok (.iconst 1, 1) := by decide +kernel
theorem d10_54 : decode method_5_code 54 = .ok (.invokevirtual 45, 3) := by decide +kernel
theorem d10_57 : decode method_5_code 57 = .ok (.ifCond .eq 9, 3) := by decide +kernel
theorem d10_60 : decode method_5_code 60 = .ok (.sipush 1024, 3) := by decide +kernel
theorem d10_63 : decode method_5_code 63 = .ok (.goto 4, 3) := by decide +kernel
theorem d10_66 : decode method_5_code 66 = .ok (.iconst 0, 1) := by decide +kernel
theorem d10_67 : decode method_5_code 67 = .ok (.ior, 1) := by decide +kernel
theorem d10_68 : decode method_5_code 68 = .ok (.istore_n 1, 1) := by decide +kernel
theorem d10_69 : decode method_5_code 69 = .ok (.iload_n 1, 1) := by decide +kernel
theorem d10_70 : decode method_5_code 70 = .ok (.aload_n 0, 1) := by decide +kernel
theorem d10_71 : decode method_5_code 71 = .ok (.iconst 2, 1) := by decide +kernel
theorem d10_72 : decode method_5_code 72 = .ok (.invokevirtual 45, 3) := by decide +kernel
theorem d10_75 : decode method_5_code 75 = .ok (.ifCond .eq 9, 3) := by decide +kernel
theorem d10_78 : decode method_5_code 78 = .ok (.sipush 2048, 3) := by decide +kernel
theorem d10_81 : decode method_5_code 81 = .ok (.goto 4, 3) := by decide +kernel
theorem d10_84 : decode method_5_code 84 = .ok (.iconst 0, 1) := by decide +kernel
theorem d10_85 : decode method_5_code 85 = .ok (.ior, 1) := by decide +kernel
theorem d10_86 : decode method_5_code 86 = .ok (.istore_n 1, 1) := by decide +kernel
theorem d10_87 : decode method_5_code 87 = .ok (.iload_n 1, 1) := by decide +kernel
theorem d10_88 : decode method_5_code 88 = .ok (.ireturn, 1) := by decide +kernel
theorem pd_10 : parseMethodDescriptor "(Lcom/example/thabiti/thabiti/core/Bindings;)I" = some ⟨[(.object "com/example/thabiti/thabiti/core/Bindings")], some .int⟩ := by decide +kernel
abbrev own_R10 : Room := { frames := 3, cells := 0, slots := 0, locals := 44 }
def f10_85 (A : AH) (s0 : Int32) (s1 : Int32) : Option (Int32 × AH) :=
  some ((s1 ||| s0), A)
set_option maxRecDepth 65536 in
set_option maxHeartbeats 4000000 in
theorem w10_85 (K : Cx p l e own_R10 s m meth c Z a0 tables_1 "com/example/thabiti/thabiti/core/BindingsUndoPinLaw" "snap" method_5_code 2 (some .int)) (sep : ∀ t, Sep Z (own_D t).2) (X : On p l e own_R10 s m args below meth c own_D Z n0 T A cells slots) (o0 : Nat) (i1 : Int32) (s0 : Int32) (s1 : Int32) (hc : cells + 0 ≤ 0) (hs : slots + 0 ≤ 0) {q : Int32 × AH} (hf : f10_85 A s0 s1 = some q) :
    Go p e below (T.setTop (mkF m 85 #[.val (.ref (n0 + o0)), .val (.int i1)] [(.int s0), (.int s1)])) (Fini own_D Z n0 s own_R10 (some (.int q.1)) q.2) := by
  unfold f10_85 at hf
  refine i_ior (pc' := 86) K X d10_85 rfl ?_
  refine i_istoreN (pc' := 87) (Ls' := #[.val (.ref (n0 + o0)), .val (.int (s1 ||| s0))]) K X d10_86 rfl rfl ?_
  refine i_iloadN (pc' := 88) K X d10_87 rfl rfl ?_
  cases hf
  exact retI K X (show cells ≤ 0 by omega) (show slots ≤ 0 by omega) d10_88
def f10_67 (A : AH) (o0 : Nat) (s0 : Int32) (s1 : Int32) : Option (Int32 × AH) :=
  (h_isA A 10 o0).bind fun y2 =>
  (f12_0 A o0 (2 : Int32)).bind fun q1 =>
  if q1.1 = (0 : Int32) then (f10_85 q1.2 (0 : Int32) (s1 ||| s0))
  else (f10_85 q1.2 (2048 : Int32) (s1 ||| s0))
set_option maxRecDepth 65536 in
set_option maxHeartbeats 4000000 in
theorem w10_67 (K : Cx p l e own_R10 s m meth c Z a0 tables_1 "com/example/thabiti/thabiti/core/BindingsUndoPinLaw" "snap" method_5_code 2 (some .int)) (sep : ∀ t, Sep Z (own_D t).2) (X : On p l e own_R10 s m args below meth c own_D Z n0 T A cells slots) (o0 : Nat) (i1 : Int32) (s0 : Int32) (s1 : Int32) (hc : cells + 0 ≤ 0) (hs : slots + 0 ≤ 0) {q : Int32 × AH} (hf : f10_67 A o0 s0 s1 = some q) :
    Go p e below (T.setTop (mkF m 67 #[.val (.ref (n0 + o0)), .val (.int i1)] [(.int s0), (.int s1)])) (Fini own_D Z n0 s own_R10 (some (.int q.1)) q.2) := by
  unfold f10_67 at hf
  refine i_ior (pc' := 68) K X d10_67 rfl ?_
  refine i_istoreN (pc' := 69) (Ls' := #[.val (.ref (n0 + o0)), .val (.int (s1 ||| s0))]) K X d10_68 rfl rfl ?_
  refine i_iloadN (pc' := 70) K X d10_69 rfl rfl ?_
  refine i_aloadN (pc' := 71) K X d10_70 rfl rfl rfl ?_
  refine i_iconst (pc' := 72) (v := (2 : Int32)) K X d10_71 rfl rfl ?_
  obtain ⟨y2, g2, hf⟩ := bs hf
  obtain ⟨q1, g1, hf⟩ := bs hf
  refine callv (pc' := 75) (kc := cells) (ks := slots) (S' := [(.int q1.1), (.int (s1 ||| s0))]) (st := [(.int (s1 ||| s0))]) K X (i1 := 68) rfl (i2 := 69) rfl (i5 := 71) (t := 10) rfl (i6 := 70) rfl (i3 := 2) rfl (i4 := 72) rfl (by decide) (by decide) g2 (rm12 (l := l) (n0 := n0) (K.2.2.2.2.2.2.2.2) A o0 (2 : Int32) g1) pd_12 rfl d10_72 rfl rfl (by decide) (w := 1) (Nat.le_of_eq rfl) (by decide) (show cells + 0 ≤ 0 by omega) (show slots + 0 ≤ 0 by omega) rfl rfl rfl rfl (fun T1 X1 => ?_)
  by_cases hc75 : q1.1 = (0 : Int32)
  · rw [if_pos hc75] at hf
    refine i_ifYes (pc' := 84) K X1 d10_75 (teq hc75).1 (by decide) (by decide) ?_
    refine i_iconst (pc' := 85) (v := (0 : Int32)) K X1 d10_84 rfl rfl ?_
    exact w10_85 K sep X1 o0 (s1 ||| s0) (0 : Int32) (s1 ||| s0) (show cells + 0 ≤ 0 by omega) (show slots + 0 ≤ 0 by omega) hf
  · rw [if_neg hc75] at hf
    refine i_ifNo (pc' := 78) K X1 d10_75 rfl (feq hc75).1 ?_
    refine i_sipush (pc' := 81) (v := (2048 : Int32)) K X1 d10_78 rfl rfl ?_
    refine i_goto (pc' := 85) K X1 d10_81 (by decide) (by decide) ?_
    exact w10_85 K sep X1 o0 (s1 ||| s0) (2048 : Int32) (s1 ||| s0) (show cells + 0 ≤ 0 by omega) (show slots + 0 ≤ 0 by omega) hf
def f10_49 (A : AH) (o0 : Nat) (s0 : Int32) (s1 : Int32) : Option (Int32 × AH) :=
  (h_isA A 10 o0).bind fun y2 =>
  (f12_0 A o0 (1 : Int32)).bind fun q1 =>
  if q1.1 = (0 : Int32) then (f10_67 q1.2 o0 (0 : Int32) (s1 ||| s0))
  else (f10_67 q1.2 o0 (1024 : Int32) (s1 ||| s0))
set_option maxRecDepth 65536 in
set_option maxHeartbeats 4000000 in
theorem w10_49 (K : Cx p l e own_R10 s m meth c Z a0 tables_1 "com/example/thabiti/thabiti/core/BindingsUndoPinLaw" "snap" method_5_code 2 (some .int)) (sep : ∀ t, Sep Z (own_D t).2) (X : On p l e own_R10 s m args below meth c own_D Z n0 T A cells slots) (o0 : Nat) (i1 : Int32) (s0 : Int32) (s1 : Int32) (hc : cells + 0 ≤ 0) (hs : slots + 0 ≤ 0) {q : Int32 × AH} (hf : f10_49 A o0 s0 s1 = some q) :
    Go p e below (T.setTop (mkF m 49 #[.val (.ref (n0 + o0)), .val (.int i1)] [(.int s0), (.int s1)])) (Fini own_D Z n0 s own_R10 (some (.int q.1)) q.2) := by
  unfold f10_49 at hf
  refine i_ior (pc' := 50) K X d10_49 rfl ?_
  refine i_istoreN (pc' := 51) (Ls' := #[.val (.ref (n0 + o0)), .val (.int (s1 ||| s0))]) K X d10_50 rfl rfl ?_
  refine i_iloadN (pc' := 52) K X d10_51 rfl rfl ?_
  refine i_aloadN (pc' := 53) K X d10_52 rfl rfl rfl ?_
  refine i_iconst (pc' := 54) (v := (1 : Int32)) K X d10_53 rfl rfl ?_
  obtain ⟨y2, g2, hf⟩ := bs hf
  obtain ⟨q1, g1, hf⟩ := bs hf
  refine callv (pc' := 57) (kc := cells) (ks := slots) (S' := [(.int q1.1), (.int (s1 ||| s0))]) (st := [(.int (s1 ||| s0))]) K X (i1 := 68) rfl (i2 := 69) rfl (i5 := 71) (t := 10) rfl (i6 := 70) rfl (i3 := 2) rfl (i4 := 72) rfl (by decide) (by decide) g2 (rm12 (l := l) (n0 := n0) (K.2.2.2.2.2.2.2.2) A o0 (1 : Int32) g1) pd_12 rfl d10_54 rfl rfl (by decide) (w := 1) (Nat.le_of_eq rfl) (by decide) (show cells + 0 ≤ 0 by omega) (show slots + 0 ≤ 0 by omega) rfl rfl rfl rfl (fun T1 X1 => ?_)
  by_cases hc57 : q1.1 = (0 : Int32)
  · rw [if_pos hc57] at hf
    refine i_ifYes (pc' := 66) K X1 d10_57 (teq hc57).1 (by decide) (by decide) ?_
    refine i_iconst (pc' := 67) (v := (0 : Int32)) K X1 d10_66 rfl rfl ?_
    exact w10_67 K sep X1 o0 (s1 ||| s0) (0 : Int32) (s1 ||| s0) (show cells + 0 ≤ 0 by omega) (show slots + 0 ≤ 0 by omega) hf
  · rw [if_neg hc57] at hf
    refine i_ifNo (pc' := 60) K X1 d10_57 rfl (feq hc57).1 ?_
    refine i_sipush (pc' := 63) (v := (1024 : Int32)) K X1 d10_60 rfl rfl ?_
    refine i_goto (pc' := 67) K X1 d10_63 (by decide) (by decide) ?_
    exact w10_67 K sep X1 o0 (s1 ||| s0) (1024 : Int32) (s1 ||| s0) (show cells + 0 ≤ 0 by omega) (show slots + 0 ≤ 0 by omega) hf
def f10_32 (A : AH) (o0 : Nat) (s0 : Int32) : Option (Int32 × AH) :=
  (h_isA A 10 o0).bind fun y2 =>
  (f12_0 A o0 (0 : Int32)).bind fun q1 =>
  if q1.1 = (0 : Int32) then (f10_49 q1.2 o0 (0 : Int32) s0)
  else (f10_49 q1.2 o0 (512 : Int32) s0)
set_option maxRecDepth 65536 in
set_option maxHeartbeats 4000000 in
theorem w10_32 (K : Cx p l e own_R10 s m meth c Z a0 tables_1 "com/example/thabiti/thabiti/core/BindingsUndoPinLaw" "snap" method_5_code 2 (some .int)) (sep : ∀ t, Sep Z (own_D t).2) (X : On p l e own_R10 s m args below meth c own_D Z n0 T A cells slots) (o0 : Nat) (i1 : Int32) (s0 : Int32) (hc : cells + 0 ≤ 0) (hs : slots + 0 ≤ 0) {q : Int32 × AH} (hf : f10_32 A o0 s0 = some q) :
    Go p e below (T.setTop (mkF m 32 #[.val (.ref (n0 + o0)), .val (.int i1)] [(.int s0)])) (Fini own_D Z n0 s own_R10 (some (.int q.1)) q.2) := by
  unfold f10_32 at hf
  refine i_istoreN (pc' := 33) (Ls' := #[.val (.ref (n0 + o0)), .val (.int s0)]) K X d10_32 rfl rfl ?_
  refine i_iloadN (pc' := 34) K X d10_33 rfl rfl ?_
  refine i_aloadN (pc' := 35) K X d10_34 rfl rfl rfl ?_
  refine i_iconst (pc' := 36) (v := (0 : Int32)) K X d10_35 rfl rfl ?_
  obtain ⟨y2, g2, hf⟩ := bs hf
  obtain ⟨q1, g1, hf⟩ := bs hf
  refine callv (pc' := 39) (kc := cells) (ks := slots) (S' := [(.int q1.1), (.int s0)]) (st := [(.int s0)]) K X (i1 := 68) rfl (i2 := 69) rfl (i5 := 71) (t := 10) rfl (i6 := 70) rfl (i3 := 2) rfl (i4 := 72) rfl (by decide) (by decide) g2 (rm12 (l := l) (n0 := n0) (K.2.2.2.2.2.2.2.2) A o0 (0 : Int32) g1) pd_12 rfl d10_36 rfl rfl (by decide) (w := 1) (Nat.le_of_eq rfl) (by decide) (show cells + 0 ≤ 0 by omega) (show slots + 0 ≤ 0 by omega) rfl rfl rfl rfl (fun T1 X1 => ?_)
  by_cases hc39 : q1.1 = (0 : Int32)
  · rw [if_pos hc39] at hf
    refine i_ifYes (pc' := 48) K X1 d10_39 (teq hc39).1 (by decide) (by decide) ?_
    refine i_iconst (pc' := 49) (v := (0 : Int32)) K X1 d10_48 rfl rfl ?_
    exact w10_49 K sep X1 o0 s0 (0 : Int32) s0 (show cells + 0 ≤ 0 by omega) (show slots + 0 ≤ 0 by omega) hf
  · rw [if_neg hc39] at hf
    refine i_ifNo (pc' := 42) K X1 d10_39 rfl (feq hc39).1 ?_
    refine i_sipush (pc' := 45) (v := (512 : Int32)) K X1 d10_42 rfl rfl ?_
    refine i_goto (pc' := 49) K X1 d10_45 (by decide) (by decide) ?_
    exact w10_49 K sep X1 o0 s0 (512 : Int32) s0 (show cells + 0 ≤ 0 by omega) (show slots + 0 ≤ 0 by omega) hf
def f10_19 (A : AH) (o0 : Nat) (s0 : Int32) : Option (Int32 × AH) :=
  (h_isA A 10 o0).bind fun y2 =>
  (f5_0 A o0 (2 : Int32)).bind fun q1 =>
  f10_32 q1.2 o0 (s0 ||| ((q1.1 + (3 : Int32)) <<< ((6 : Int32) &&& 31)))
set_option maxRecDepth 65536 in
set_option maxHeartbeats 4000000 in
theorem w10_19 (K : Cx p l e own_R10 s m meth c Z a0 tables_1 "com/example/thabiti/thabiti/core/BindingsUndoPinLaw" "snap" method_5_code 2 (some .int)) (sep : ∀ t, Sep Z (own_D t).2) (X : On p l e own_R10 s m args below meth c own_D Z n0 T A cells slots) (o0 : Nat) (i1 : Int32) (s0 : Int32) (hc : cells + 0 ≤ 0) (hs : slots + 0 ≤ 0) {q : Int32 × AH} (hf : f10_19 A o0 s0 = some q) :
    Go p e below (T.setTop (mkF m 19 #[.val (.ref (n0 + o0)), .val (.int i1)] [(.int s0)])) (Fini own_D Z n0 s own_R10 (some (.int q.1)) q.2) := by
  unfold f10_19 at hf
  refine i_istoreN (pc' := 20) (Ls' := #[.val (.ref (n0 + o0)), .val (.int s0)]) K X d10_19 rfl rfl ?_
  refine i_iloadN (pc' := 21) K X d10_20 rfl rfl ?_
  refine i_aloadN (pc' := 22) K X d10_21 rfl rfl rfl ?_
  refine i_iconst (pc' := 23) (v := (2 : Int32)) K X d10_22 rfl rfl ?_
  obtain ⟨y2, g2, hf⟩ := bs hf
  obtain ⟨q1, g1, hf⟩ := bs hf
  refine callv (pc' := 26) (kc := cells) (ks := slots) (S' := [(.int q1.1), (.int s0)]) (st := [(.int s0)]) K X (i1 := 63) rfl (i2 := 36) rfl (i5 := 38) (t := 10) rfl (i6 := 37) rfl (i3 := 2) rfl (i4 := 39) rfl (by decide) (by decide) g2 (rm5 (l := l) (n0 := n0) (K.2.2.2.2.2.2.2.2) A o0 (2 : Int32) g1) pd_5 rfl d10_23 rfl rfl (by decide) (w := 1) (Nat.le_of_eq rfl) (by decide) (show cells + 0 ≤ 0 by omega) (show slots + 0 ≤ 0 by omega) rfl rfl rfl rfl (fun T1 X1 => ?_)
  refine i_iconst (pc' := 27) (v := (3 : Int32)) K X1 d10_26 rfl rfl ?_
  refine i_iadd (pc' := 28) K X1 d10_27 rfl ?_
  refine i_bipush (pc' := 30) (v := (6 : Int32)) K X1 d10_28 rfl rfl ?_
  refine i_ishl (pc' := 31) K X1 d10_30 rfl ?_
  refine i_ior (pc' := 32) K X1 d10_31 rfl ?_
  exact w10_32 K sep X1 o0 s0 (s0 ||| ((q1.1 + (3 : Int32)) <<< ((6 : Int32) &&& 31))) (show cells + 0 ≤ 0 by omega) (show slots + 0 ≤ 0 by omega) hf
def f10_0 (A : AH) (o0 : Nat) : Option (Int32 × AH) :=
  (h_isA A 10 o0).bind fun y2 =>
  (f5_0 A o0 (0 : Int32)).bind fun q1 =>
  (h_isA q1.2 10 o0).bind fun y4 =>
  (f5_0 q1.2 o0 (1 : Int32)).bind fun q3 =>
  f10_19 q3.2 o0 ((q1.1 + (3 : Int32)) ||| ((q3.1 + (3 : Int32)) <<< ((3 : Int32) &&& 31)))
set_option maxRecDepth 65536 in
set_option maxHeartbeats 4000000 in
theorem w10_0 (K : Cx p l e own_R10 s m meth c Z a0 tables_1 "com/example/thabiti/thabiti/core/BindingsUndoPinLaw" "snap" method_5_code 2 (some .int)) (sep : ∀ t, Sep Z (own_D t).2) (X : On p l e own_R10 s m args below meth c own_D Z n0 T A cells slots) (o0 : Nat) (hc : cells + 0 ≤ 0) (hs : slots + 0 ≤ 0) {q : Int32 × AH} (hf : f10_0 A o0 = some q) :
    Go p e below (T.setTop (mkF m 0 #[.val (.ref (n0 + o0)), .unset] [])) (Fini own_D Z n0 s own_R10 (some (.int q.1)) q.2) := by
  unfold f10_0 at hf
  refine i_aloadN (pc' := 1) K X d10_0 rfl rfl rfl ?_
  refine i_iconst (pc' := 2) (v := (0 : Int32)) K X d10_1 rfl rfl ?_
  obtain ⟨y2, g2, hf⟩ := bs hf
  obtain ⟨q1, g1, hf⟩ := bs hf
  refine callv (pc' := 5) (kc := cells) (ks := slots) (S' := [(.int q1.1)]) (st := []) K X (i1 := 63) rfl (i2 := 36) rfl (i5 := 38) (t := 10) rfl (i6 := 37) rfl (i3 := 2) rfl (i4 := 39) rfl (by decide) (by decide) g2 (rm5 (l := l) (n0 := n0) (K.2.2.2.2.2.2.2.2) A o0 (0 : Int32) g1) pd_5 rfl d10_2 rfl rfl (by decide) (w := 0) (Nat.le_of_eq rfl) (by decide) (show cells + 0 ≤ 0 by omega) (show slots + 0 ≤ 0 by omega) rfl rfl rfl rfl (fun T1 X1 => ?_)
  refine i_iconst (pc' := 6) (v := (3 : Int32)) K X1 d10_5 rfl rfl ?_
  refine i_iadd (pc' := 7) K X1 d10_6 rfl ?_
  refine i_istoreN (pc' := 8) (Ls' := #[.val (.ref (n0 + o0)), .val (.int (q1.1 + (3 : Int32)))]) K X1 d10_7 rfl rfl ?_
  refine i_iloadN (pc' := 9) K X1 d10_8 rfl rfl ?_
  refine i_aloadN (pc' := 10) K X1 d10_9 rfl rfl rfl ?_
  refine i_iconst (pc' := 11) (v := (1 : Int32)) K X1 d10_10 rfl rfl ?_
  obtain ⟨y4, g4, hf⟩ := bs hf
  obtain ⟨q3, g3, hf⟩ := bs hf
  refine callv (pc' := 14) (kc := cells) (ks := slots) (S' := [(.int q3.1), (.int (q1.1 + (3 : Int32)))]) (st := [(.int (q1.1 + (3 : Int32)))]) K X1 (i1 := 63) rfl (i2 := 36) rfl (i5 := 38) (t := 10) rfl (i6 := 37) rfl (i3 := 2) rfl (i4 := 39) rfl (by decide) (by decide) g4 (rm5 (l := l) (n0 := n0) (K.2.2.2.2.2.2.2.2) q1.2 o0 (1 : Int32) g3) pd_5 rfl d10_11 rfl rfl (by decide) (w := 1) (Nat.le_of_eq rfl) (by decide) (show cells + 0 ≤ 0 by omega) (show slots + 0 ≤ 0 by omega) rfl rfl rfl rfl (fun T3 X3 => ?_)
  refine i_iconst (pc' := 15) (v := (3 : Int32)) K X3 d10_14 rfl rfl ?_
  refine i_iadd (pc' := 16) K X3 d10_15 rfl ?_
  refine i_iconst (pc' := 17) (v := (3 : Int32)) K X3 d10_16 rfl rfl ?_
  refine i_ishl (pc' := 18) K X3 d10_17 rfl ?_
  refine i_ior (pc' := 19) K X3 d10_18 rfl ?_
  exact w10_19 K sep X3 o0 (q1.1 + (3 : Int32)) ((q1.1 + (3 : Int32)) ||| ((q3.1 + (3 : Int32)) <<< ((3 : Int32) &&& 31))) (show cells + 0 ≤ 0 by omega) (show slots + 0 ≤ 0 by omega) hf
theorem pn_10 : plainName "com/example/thabiti/thabiti/core/BindingsUndoPinLaw" = true := by first | (simp [plainName, overriddenIn]; done) | decide +kernel
theorem rm10 {l : Launch} {Z : State} {a0 : Array Value} {n0 : Nat} (hw : ∀ d ∈ tables_1, d.before a0 Z = true) (A : AH) (o0 : Nat) {q : Int32 × AH} (hf : f10_0 A o0 = some q) :
    Met l own_D Z n0 (⟨"com/example/thabiti/thabiti/core/BindingsUndoPinLaw", "snap", "(Lcom/example/thabiti/thabiti/core/Bindings;)I"⟩ : MethodName) method_5_code 2 (some .int) own_R10 [(.ref (n0 + o0))] A (some (.int q.1)) q.2 :=
  met (W := tables_1) (a0 := a0) (own := "com/example/thabiti/thabiti/core/BindingsUndoPinLaw") (nm := "snap") (L0 := #[.val (.ref (n0 + o0)), .unset]) (plainFor_of_name pn_10) hw rfl rfl (fun m => by first | (simp [entryFrame, mkF, argsToLocals, Value.category]; done) | rfl) (fun p e s m below meth c T K X => w10_0 K (own_sep hw) X o0 (show 0 + 0 ≤ 0 by decide) (show 0 + 0 ≤ 0 by decide) hf)
def f0_200 (A : AH) (s0 : Int32) : Option (Int32 × AH) :=
  some ((nar .boolean s0), A)
set_option maxRecDepth 65536 in
set_option maxHeartbeats 4000000 in
theorem w0_200 (K : Cx p l e room_1 s m meth c Z a0 tables_1 "com/example/thabiti/thabiti/core/BindingsUndoPinLaw" "law" code maxLocals ret) (sep : ∀ t, Sep Z (own_D t).2) (X : On p l e room_1 s m args below meth c own_D Z n0 T A cells slots) (i0 : Int32) (i1 : Int32) (i2 : Int32) (i3 : Int32) (i4 : Int32) (i5 : Int32) (i6 : Int32) (o7 : Nat) (o8 : Nat) (i9 : Int32) (i10 : Int32) (i11 : Int32) (s0 : Int32) (hc : cells + 0 ≤ 32) (hs : slots + 0 ≤ 512) {q : Int32 × AH} (hf : f0_200 A s0 = some q) :
    Go p e below (T.setTop (mkF m 200 #[.val (.int i0), .val (.int i1), .val (.int i2), .val (.int i3), .val (.int i4), .val (.int i5), .val (.int i6), .val (.ref (n0 + o7)), .val (.ref (n0 + o8)), .val (.int i9), .val (.int i10), .val (.int i11)] [(.int s0)])) (Fini own_D Z n0 s room_1 (some (.int q.1)) q.2) := by
  unfold f0_200 at hf
  cases hf
  exact retB K (by simp) X (show cells ≤ 32 by omega) (show slots ≤ 512 by omega) at_200
def f0_199 (A : AH)  : Option (Int32 × AH) :=
  f0_200 A (0 : Int32)
set_option maxRecDepth 65536 in
set_option maxHeartbeats 4000000 in
theorem w0_199 (K : Cx p l e room_1 s m meth c Z a0 tables_1 "com/example/thabiti/thabiti/core/BindingsUndoPinLaw" "law" code maxLocals ret) (sep : ∀ t, Sep Z (own_D t).2) (X : On p l e room_1 s m args below meth c own_D Z n0 T A cells slots) (i0 : Int32) (i1 : Int32) (i2 : Int32) (i3 : Int32) (i4 : Int32) (i5 : Int32) (i6 : Int32) (o7 : Nat) (o8 : Nat) (i9 : Int32) (i10 : Int32) (i11 : Int32) (hc : cells + 0 ≤ 32) (hs : slots + 0 ≤ 512) {q : Int32 × AH} (hf : f0_199 A  = some q) :
    Go p e below (T.setTop (mkF m 199 #[.val (.int i0), .val (.int i1), .val (.int i2), .val (.int i3), .val (.int i4), .val (.int i5), .val (.int i6), .val (.ref (n0 + o7)), .val (.ref (n0 + o8)), .val (.int i9), .val (.int i10), .val (.int i11)] [])) (Fini own_D Z n0 s room_1 (some (.int q.1)) q.2) := by
  unfold f0_199 at hf
  refine i_iconst (pc' := 200) (v := (0 : Int32)) K X at_199 rfl rfl ?_
  exact w0_200 K sep X i0 i1 i2 i3 i4 i5 i6 o7 o8 i9 i10 i11 (0 : Int32) (show cells + 0 ≤ 32 by omega) (show slots + 0 ≤ 512 by omega) hf
def f0_196 (A : AH) (s0 : Int32) : Option (Int32 × AH) :=
  f0_200 A s0
set_option maxRecDepth 65536 in
set_option maxHeartbeats 4000000 in
theorem w0_196 (K : Cx p l e room_1 s m meth c Z a0 tables_1 "com/example/thabiti/thabiti/core/BindingsUndoPinLaw" "law" code maxLocals ret) (sep : ∀ t, Sep Z (own_D t).2) (X : On p l e room_1 s m args below meth c own_D Z n0 T A cells slots) (i0 : Int32) (i1 : Int32) (i2 : Int32) (i3 : Int32) (i4 : Int32) (i5 : Int32) (i6 : Int32) (o7 : Nat) (o8 : Nat) (i9 : Int32) (i10 : Int32) (i11 : Int32) (s0 : Int32) (hc : cells + 0 ≤ 32) (hs : slots + 0 ≤ 512) {q : Int32 × AH} (hf : f0_196 A s0 = some q) :
    Go p e below (T.setTop (mkF m 196 #[.val (.int i0), .val (.int i1), .val (.int i2), .val (.int i3), .val (.int i4), .val (.int i5), .val (.int i6), .val (.ref (n0 + o7)), .val (.ref (n0 + o8)), .val (.int i9), .val (.int i10), .val (.int i11)] [(.int s0)])) (Fini own_D Z n0 s room_1 (some (.int q.1)) q.2) := by
  unfold f0_196 at hf
  refine i_goto (pc' := 200) K X at_196 (by decide) (by decide) ?_
  exact w0_200 K sep X i0 i1 i2 i3 i4 i5 i6 o7 o8 i9 i10 i11 s0 (show cells + 0 ≤ 32 by omega) (show slots + 0 ≤ 512 by omega) hf
def f0_157 (A : AH) (o7 : Nat) (o8 : Nat) (i10 : Int32) (s0 : Int32) : Option (Int32 × AH) :=
  if i10 = (0 : Int32) then (f0_199 A )
  else (if s0 = (0 : Int32) then (f0_199 A )
  else ((f10_0 A o7).bind fun q1 =>
  (f10_0 q1.2 o8).bind fun q2 =>
  if q1.1 = q2.1 then ((h_isA q2.2 10 o7).bind fun y4 =>
  (f8_0 q2.2 o7).bind fun q3 =>
  (h_isA q3.2 10 o8).bind fun y6 =>
  (f8_0 q3.2 o8).bind fun q5 =>
  if q3.1 = q5.1 then (f0_196 q5.2 (1 : Int32))
  else (f0_199 q5.2 ))
  else (f0_199 q2.2 )))
set_option maxRecDepth 65536 in
set_option maxHeartbeats 4000000 in
theorem w0_157 (K : Cx p l e room_1 s m meth c Z a0 tables_1 "com/example/thabiti/thabiti/core/BindingsUndoPinLaw" "law" code maxLocals ret) (sep : ∀ t, Sep Z (own_D t).2) (X : On p l e room_1 s m args below meth c own_D Z n0 T A cells slots) (i0 : Int32) (i1 : Int32) (i2 : Int32) (i3 : Int32) (i4 : Int32) (i5 : Int32) (i6 : Int32) (o7 : Nat) (o8 : Nat) (i9 : Int32) (i10 : Int32) (s0 : Int32) (hc : cells + 0 ≤ 32) (hs : slots + 0 ≤ 512) {q : Int32 × AH} (hf : f0_157 A o7 o8 i10 s0 = some q) :
    Go p e below (T.setTop (mkF m 157 #[.val (.int i0), .val (.int i1), .val (.int i2), .val (.int i3), .val (.int i4), .val (.int i5), .val (.int i6), .val (.ref (n0 + o7)), .val (.ref (n0 + o8)), .val (.int i9), .val (.int i10), .unset] [(.int s0)])) (Fini own_D Z n0 s room_1 (some (.int q.1)) q.2) := by
  unfold f0_157 at hf
  refine i_istore (pc' := 159) (Ls' := #[.val (.int i0), .val (.int i1), .val (.int i2), .val (.int i3), .val (.int i4), .val (.int i5), .val (.int i6), .val (.ref (n0 + o7)), .val (.ref (n0 + o8)), .val (.int i9), .val (.int i10), .val (.int s0)]) K X at_157 rfl rfl ?_
  refine i_iload (pc' := 161) K X at_159 rfl rfl ?_
  by_cases hc161 : i10 = (0 : Int32)
  · rw [if_pos hc161] at hf
    refine i_ifYes (pc' := 199) K X at_161 (teq hc161).1 (by decide) (by decide) ?_
    exact w0_199 K sep X i0 i1 i2 i3 i4 i5 i6 o7 o8 i9 i10 s0 (show cells + 0 ≤ 32 by omega) (show slots + 0 ≤ 512 by omega) hf
  · rw [if_neg hc161] at hf
    refine i_ifNo (pc' := 164) K X at_161 rfl (feq hc161).1 ?_
    refine i_iload (pc' := 166) K X at_164 rfl rfl ?_
    by_cases hc166 : s0 = (0 : Int32)
    · rw [if_pos hc166] at hf
      refine i_ifYes (pc' := 199) K X at_166 (teq hc166).1 (by decide) (by decide) ?_
      exact w0_199 K sep X i0 i1 i2 i3 i4 i5 i6 o7 o8 i9 i10 s0 (show cells + 0 ≤ 32 by omega) (show slots + 0 ≤ 512 by omega) hf
    · rw [if_neg hc166] at hf
      refine i_ifNo (pc' := 169) K X at_166 rfl (feq hc166).1 ?_
      refine i_aload (pc' := 171) K X at_169 rfl rfl rfl ?_
      obtain ⟨q1, g1, hf⟩ := bs hf
      refine calls (pc' := 174) (kc := cells) (ks := slots) (S' := [(.int q1.1)]) (st := []) K X (i1 := 60) rfl (i2 := 61) rfl (i3 := 25) rfl (i4 := 62) rfl (by decide) (rm10 (l := l) (n0 := n0) (K.2.2.2.2.2.2.2.2) A o7 g1) pd_10 rfl at_171 rfl rfl (by decide) (w := 0) (Nat.le_of_eq rfl) (by decide) (show cells + 0 ≤ 32 by omega) (show slots + 0 ≤ 512 by omega) rfl rfl rfl rfl (fun T1 X1 => ?_)
      refine i_aload (pc' := 176) K X1 at_174 rfl rfl rfl ?_
      obtain ⟨q2, g2, hf⟩ := bs hf
      refine calls (pc' := 179) (kc := cells) (ks := slots) (S' := [(.int q2.1), (.int q1.1)]) (st := [(.int q1.1)]) K X1 (i1 := 60) rfl (i2 := 61) rfl (i3 := 25) rfl (i4 := 62) rfl (by decide) (rm10 (l := l) (n0 := n0) (K.2.2.2.2.2.2.2.2) q1.2 o8 g2) pd_10 rfl at_176 rfl rfl (by decide) (w := 1) (Nat.le_of_eq rfl) (by decide) (show cells + 0 ≤ 32 by omega) (show slots + 0 ≤ 512 by omega) rfl rfl rfl rfl (fun T2 X2 => ?_)
      by_cases hc179 : q1.1 = q2.1
      · rw [if_pos hc179] at hf
        refine i_icmpNo (pc' := 182) K X2 at_179 rfl (teq hc179).2 ?_
        refine i_aload (pc' := 184) K X2 at_182 rfl rfl rfl ?_
        obtain ⟨y4, g4, hf⟩ := bs hf
        obtain ⟨q3, g3, hf⟩ := bs hf
        refine callv (pc' := 187) (kc := cells) (ks := slots) (S' := [(.int q3.1)]) (st := []) K X2 (i1 := 48) rfl (i2 := 49) rfl (i5 := 51) (t := 10) rfl (i6 := 50) rfl (i3 := 2) rfl (i4 := 52) rfl (by decide) (by decide) g4 (rm8 (l := l) (n0 := n0) (K.2.2.2.2.2.2.2.2) q2.2 o7 g3) pd_8 rfl at_184 rfl rfl (by decide) (w := 0) (Nat.le_of_eq rfl) (by decide) (show cells + 0 ≤ 32 by omega) (show slots + 0 ≤ 512 by omega) rfl rfl rfl rfl (fun T3 X3 => ?_)
        refine i_aload (pc' := 189) K X3 at_187 rfl rfl rfl ?_
        obtain ⟨y6, g6, hf⟩ := bs hf
        obtain ⟨q5, g5, hf⟩ := bs hf
        refine callv (pc' := 192) (kc := cells) (ks := slots) (S' := [(.int q5.1), (.int q3.1)]) (st := [(.int q3.1)]) K X3 (i1 := 48) rfl (i2 := 49) rfl (i5 := 51) (t := 10) rfl (i6 := 50) rfl (i3 := 2) rfl (i4 := 52) rfl (by decide) (by decide) g6 (rm8 (l := l) (n0 := n0) (K.2.2.2.2.2.2.2.2) q3.2 o8 g5) pd_8 rfl at_189 rfl rfl (by decide) (w := 1) (Nat.le_of_eq rfl) (by decide) (show cells + 0 ≤ 32 by omega) (show slots + 0 ≤ 512 by omega) rfl rfl rfl rfl (fun T5 X5 => ?_)
        by_cases hc192 : q3.1 = q5.1
        · rw [if_pos hc192] at hf
          refine i_icmpNo (pc' := 195) K X5 at_192 rfl (teq hc192).2 ?_
          refine i_iconst (pc' := 196) (v := (1 : Int32)) K X5 at_195 rfl rfl ?_
          exact w0_196 K sep X5 i0 i1 i2 i3 i4 i5 i6 o7 o8 i9 i10 s0 (1 : Int32) (show cells + 0 ≤ 32 by omega) (show slots + 0 ≤ 512 by omega) hf
        · rw [if_neg hc192] at hf
          refine i_icmpYes (pc' := 199) K X5 at_192 (feq hc192).2 (by decide) (by decide) ?_
          exact w0_199 K sep X5 i0 i1 i2 i3 i4 i5 i6 o7 o8 i9 i10 s0 (show cells + 0 ≤ 32 by omega) (show slots + 0 ≤ 512 by omega) hf
      · rw [if_neg hc179] at hf
        refine i_icmpYes (pc' := 199) K X2 at_179 (feq hc179).2 (by decide) (by decide) ?_
        exact w0_199 K sep X2 i0 i1 i2 i3 i4 i5 i6 o7 o8 i9 i10 s0 (show cells + 0 ≤ 32 by omega) (show slots + 0 ≤ 512 by omega) hf
def f0_133 (A : AH) (i5 : Int32) (o7 : Nat) (o8 : Nat) (s0 : Int32) : Option (Int32 × AH) :=
  (f2_0 A o7 i5).bind fun q1 =>
  (f2_0 q1.2 o8 i5).bind fun q2 =>
  if q1.1 = q2.1 then (f0_157 q2.2 o7 o8 s0 (1 : Int32))
  else (f0_157 q2.2 o7 o8 s0 (0 : Int32))
set_option maxRecDepth 65536 in
set_option maxHeartbeats 4000000 in
theorem w0_133 (K : Cx p l e room_1 s m meth c Z a0 tables_1 "com/example/thabiti/thabiti/core/BindingsUndoPinLaw" "law" code maxLocals ret) (sep : ∀ t, Sep Z (own_D t).2) (X : On p l e room_1 s m args below meth c own_D Z n0 T A cells slots) (i0 : Int32) (i1 : Int32) (i2 : Int32) (i3 : Int32) (i4 : Int32) (i5 : Int32) (i6 : Int32) (o7 : Nat) (o8 : Nat) (i9 : Int32) (s0 : Int32) (hc : cells + 0 ≤ 32) (hs : slots + 0 ≤ 512) {q : Int32 × AH} (hf : f0_133 A i5 o7 o8 s0 = some q) :
    Go p e below (T.setTop (mkF m 133 #[.val (.int i0), .val (.int i1), .val (.int i2), .val (.int i3), .val (.int i4), .val (.int i5), .val (.int i6), .val (.ref (n0 + o7)), .val (.ref (n0 + o8)), .val (.int i9), .unset, .unset] [(.int s0)])) (Fini own_D Z n0 s room_1 (some (.int q.1)) q.2) := by
  unfold f0_133 at hf
  refine i_istore (pc' := 135) (Ls' := #[.val (.int i0), .val (.int i1), .val (.int i2), .val (.int i3), .val (.int i4), .val (.int i5), .val (.int i6), .val (.ref (n0 + o7)), .val (.ref (n0 + o8)), .val (.int i9), .val (.int s0), .unset]) K X at_133 rfl rfl ?_
  refine i_aload (pc' := 137) K X at_135 rfl rfl rfl ?_
  refine i_iload (pc' := 139) K X at_137 rfl rfl ?_
  obtain ⟨q1, g1, hf⟩ := bs hf
  refine calls (pc' := 142) (kc := cells) (ks := slots) (S' := [(.int q1.1)]) (st := []) K X (i1 := 23) rfl (i2 := 24) rfl (i3 := 25) rfl (i4 := 26) rfl (by decide) (rm2 (l := l) (n0 := n0) (K.2.2.2.2.2.2.2.2) A o7 i5 g1) pd_2 rfl at_139 rfl rfl (by decide) (w := 0) (Nat.le_of_eq rfl) (by decide) (show cells + 0 ≤ 32 by omega) (show slots + 0 ≤ 512 by omega) rfl rfl rfl rfl (fun T1 X1 => ?_)
  refine i_aload (pc' := 144) K X1 at_142 rfl rfl rfl ?_
  refine i_iload (pc' := 146) K X1 at_144 rfl rfl ?_
  obtain ⟨q2, g2, hf⟩ := bs hf
  refine calls (pc' := 149) (kc := cells) (ks := slots) (S' := [(.int q2.1), (.int q1.1)]) (st := [(.int q1.1)]) K X1 (i1 := 23) rfl (i2 := 24) rfl (i3 := 25) rfl (i4 := 26) rfl (by decide) (rm2 (l := l) (n0 := n0) (K.2.2.2.2.2.2.2.2) q1.2 o8 i5 g2) pd_2 rfl at_146 rfl rfl (by decide) (w := 1) (Nat.le_of_eq rfl) (by decide) (show cells + 0 ≤ 32 by omega) (show slots + 0 ≤ 512 by omega) rfl rfl rfl rfl (fun T2 X2 => ?_)
  by_cases hc149 : q1.1 = q2.1
  · rw [if_pos hc149] at hf
    refine i_icmpNo (pc' := 152) K X2 at_149 rfl (teq hc149).2 ?_
    refine i_iconst (pc' := 153) (v := (1 : Int32)) K X2 at_152 rfl rfl ?_
    refine i_goto (pc' := 157) K X2 at_153 (by decide) (by decide) ?_
    exact w0_157 K sep X2 i0 i1 i2 i3 i4 i5 i6 o7 o8 i9 s0 (1 : Int32) (show cells + 0 ≤ 32 by omega) (show slots + 0 ≤ 512 by omega) hf
  · rw [if_neg hc149] at hf
    refine i_icmpYes (pc' := 156) K X2 at_149 (feq hc149).2 (by decide) (by decide) ?_
    refine i_iconst (pc' := 157) (v := (0 : Int32)) K X2 at_156 rfl rfl ?_
    exact w0_157 K sep X2 i0 i1 i2 i3 i4 i5 i6 o7 o8 i9 s0 (0 : Int32) (show cells + 0 ≤ 32 by omega) (show slots + 0 ≤ 512 by omega) hf
def f0_132 (A : AH) (i5 : Int32) (o7 : Nat) (o8 : Nat) : Option (Int32 × AH) :=
  f0_133 A i5 o7 o8 (0 : Int32)
set_option maxRecDepth 65536 in
set_option maxHeartbeats 4000000 in
theorem w0_132 (K : Cx p l e room_1 s m meth c Z a0 tables_1 "com/example/thabiti/thabiti/core/BindingsUndoPinLaw" "law" code maxLocals ret) (sep : ∀ t, Sep Z (own_D t).2) (X : On p l e room_1 s m args below meth c own_D Z n0 T A cells slots) (i0 : Int32) (i1 : Int32) (i2 : Int32) (i3 : Int32) (i4 : Int32) (i5 : Int32) (i6 : Int32) (o7 : Nat) (o8 : Nat) (i9 : Int32) (hc : cells + 0 ≤ 32) (hs : slots + 0 ≤ 512) {q : Int32 × AH} (hf : f0_132 A i5 o7 o8 = some q) :
    Go p e below (T.setTop (mkF m 132 #[.val (.int i0), .val (.int i1), .val (.int i2), .val (.int i3), .val (.int i4), .val (.int i5), .val (.int i6), .val (.ref (n0 + o7)), .val (.ref (n0 + o8)), .val (.int i9), .unset, .unset] [])) (Fini own_D Z n0 s room_1 (some (.int q.1)) q.2) := by
  unfold f0_132 at hf
  refine i_iconst (pc' := 133) (v := (0 : Int32)) K X at_132 rfl rfl ?_
  exact w0_133 K sep X i0 i1 i2 i3 i4 i5 i6 o7 o8 i9 (0 : Int32) (show cells + 0 ≤ 32 by omega) (show slots + 0 ≤ 512 by omega) hf
def f0_122 (A : AH) (i5 : Int32) (o7 : Nat) (o8 : Nat) (r0 : Nat) (s1 : Int32) : Option (Int32 × AH) :=
  (f10_0 A r0).bind fun q1 =>
  if s1 = q1.1 then (f0_133 q1.2 i5 o7 o8 (1 : Int32))
  else (f0_132 q1.2 i5 o7 o8)
set_option maxRecDepth 65536 in
set_option maxHeartbeats 4000000 in
theorem w0_122 (K : Cx p l e room_1 s m meth c Z a0 tables_1 "com/example/thabiti/thabiti/core/BindingsUndoPinLaw" "law" code maxLocals ret) (sep : ∀ t, Sep Z (own_D t).2) (X : On p l e room_1 s m args below meth c own_D Z n0 T A cells slots) (i0 : Int32) (i1 : Int32) (i2 : Int32) (i3 : Int32) (i4 : Int32) (i5 : Int32) (i6 : Int32) (o7 : Nat) (o8 : Nat) (i9 : Int32) (r0 : Nat) (s1 : Int32) (hc : cells + 0 ≤ 32) (hs : slots + 0 ≤ 512) {q : Int32 × AH} (hf : f0_122 A i5 o7 o8 r0 s1 = some q) :
    Go p e below (T.setTop (mkF m 122 #[.val (.int i0), .val (.int i1), .val (.int i2), .val (.int i3), .val (.int i4), .val (.int i5), .val (.int i6), .val (.ref (n0 + o7)), .val (.ref (n0 + o8)), .val (.int i9), .unset, .unset] [(.ref (n0 + r0)), (.int s1)])) (Fini own_D Z n0 s room_1 (some (.int q.1)) q.2) := by
  unfold f0_122 at hf
  obtain ⟨q1, g1, hf⟩ := bs hf
  refine calls (pc' := 125) (kc := cells) (ks := slots) (S' := [(.int q1.1), (.int s1)]) (st := [(.int s1)]) K X (i1 := 60) rfl (i2 := 61) rfl (i3 := 25) rfl (i4 := 62) rfl (by decide) (rm10 (l := l) (n0 := n0) (K.2.2.2.2.2.2.2.2) A r0 g1) pd_10 rfl at_122 rfl rfl (by decide) (w := 1) (Nat.le_of_eq rfl) (by decide) (show cells + 0 ≤ 32 by omega) (show slots + 0 ≤ 512 by omega) rfl rfl rfl rfl (fun T1 X1 => ?_)
  by_cases hc125 : s1 = q1.1
  · rw [if_pos hc125] at hf
    refine i_icmpNo (pc' := 128) K X1 at_125 rfl (teq hc125).2 ?_
    refine i_iconst (pc' := 129) (v := (1 : Int32)) K X1 at_128 rfl rfl ?_
    refine i_goto (pc' := 133) K X1 at_129 (by decide) (by decide) ?_
    exact w0_133 K sep X1 i0 i1 i2 i3 i4 i5 i6 o7 o8 i9 (1 : Int32) (show cells + 0 ≤ 32 by omega) (show slots + 0 ≤ 512 by omega) hf
  · rw [if_neg hc125] at hf
    refine i_icmpYes (pc' := 132) K X1 at_125 (feq hc125).2 (by decide) (by decide) ?_
    exact w0_132 K sep X1 i0 i1 i2 i3 i4 i5 i6 o7 o8 i9 (show cells + 0 ≤ 32 by omega) (show slots + 0 ≤ 512 by omega) hf
def f0_84 (A : AH) (i5 : Int32) (o7 : Nat) (o8 : Nat) (i9 : Int32) (s0 : Int32) (r1 : Nat) : Option (Int32 × AH) :=
  (f2_0 A r1 s0).bind fun q1 =>
  (h_isA q1.2 10 o7).bind fun y3 =>
  (f9_0 8 q1.2 o7 i9).bind fun A2 =>
  (h_isA A2 10 o7).bind fun y5 =>
  (f8_0 A2 o7).bind fun q4 =>
  if q4.1 = i9 then ((h_isA q4.2 10 o8).bind fun y7 =>
  (f8_0 q4.2 o8).bind fun q6 =>
  if q6.1 = i9 then ((f10_0 q6.2 o7).bind fun q8 =>
  f0_122 q8.2 i5 o7 o8 o8 q8.1)
  else (f0_132 q6.2 i5 o7 o8))
  else (f0_132 q4.2 i5 o7 o8)
set_option maxRecDepth 65536 in
set_option maxHeartbeats 4000000 in
theorem w0_84 (K : Cx p l e room_1 s m meth c Z a0 tables_1 "com/example/thabiti/thabiti/core/BindingsUndoPinLaw" "law" code maxLocals ret) (sep : ∀ t, Sep Z (own_D t).2) (X : On p l e room_1 s m args below meth c own_D Z n0 T A cells slots) (i0 : Int32) (i1 : Int32) (i2 : Int32) (i3 : Int32) (i4 : Int32) (i5 : Int32) (i6 : Int32) (o7 : Nat) (o8 : Nat) (i9 : Int32) (s0 : Int32) (r1 : Nat) (hc : cells + 0 ≤ 32) (hs : slots + 0 ≤ 512) {q : Int32 × AH} (hf : f0_84 A i5 o7 o8 i9 s0 r1 = some q) :
    Go p e below (T.setTop (mkF m 84 #[.val (.int i0), .val (.int i1), .val (.int i2), .val (.int i3), .val (.int i4), .val (.int i5), .val (.int i6), .val (.ref (n0 + o7)), .val (.ref (n0 + o8)), .val (.int i9), .unset, .unset] [(.int s0), (.ref (n0 + r1))])) (Fini own_D Z n0 s room_1 (some (.int q.1)) q.2) := by
  unfold f0_84 at hf
  obtain ⟨q1, g1, hf⟩ := bs hf
  refine calls (pc' := 87) (kc := cells) (ks := slots) (S' := [(.int q1.1)]) (st := []) K X (i1 := 23) rfl (i2 := 24) rfl (i3 := 25) rfl (i4 := 26) rfl (by decide) (rm2 (l := l) (n0 := n0) (K.2.2.2.2.2.2.2.2) A r1 s0 g1) pd_2 rfl at_84 rfl rfl (by decide) (w := 0) (Nat.le_of_eq rfl) (by decide) (show cells + 0 ≤ 32 by omega) (show slots + 0 ≤ 512 by omega) rfl rfl rfl rfl (fun T1 X1 => ?_)
  refine i_pop (pc' := 88) K X1 at_87 rfl rfl ?_
  refine i_aload (pc' := 90) K X1 at_88 rfl rfl rfl ?_
  refine i_iload (pc' := 92) K X1 at_90 rfl rfl ?_
  obtain ⟨y3, g3, hf⟩ := bs hf
  obtain ⟨A2, g2, hf⟩ := bs hf
  refine callv (pc' := 95) (kc := cells) (ks := slots) (S' := []) (st := []) K X1 (i1 := 55) rfl (i2 := 56) rfl (i5 := 58) (t := 10) rfl (i6 := 57) rfl (i3 := 2) rfl (i4 := 59) rfl (by decide) (by decide) g3 (rm9 (l := l) (n0 := n0) (K.2.2.2.2.2.2.2.2) q1.2 o7 i9 g2) pd_9 rfl at_92 rfl rfl (by decide) (w := 0) (Nat.le_of_eq rfl) (by decide) (show cells + 0 ≤ 32 by omega) (show slots + 0 ≤ 512 by omega) rfl rfl rfl rfl (fun T2 X2 => ?_)
  refine i_aload (pc' := 97) K X2 at_95 rfl rfl rfl ?_
  obtain ⟨y5, g5, hf⟩ := bs hf
  obtain ⟨q4, g4, hf⟩ := bs hf
  refine callv (pc' := 100) (kc := cells) (ks := slots) (S' := [(.int q4.1)]) (st := []) K X2 (i1 := 48) rfl (i2 := 49) rfl (i5 := 51) (t := 10) rfl (i6 := 50) rfl (i3 := 2) rfl (i4 := 52) rfl (by decide) (by decide) g5 (rm8 (l := l) (n0 := n0) (K.2.2.2.2.2.2.2.2) A2 o7 g4) pd_8 rfl at_97 rfl rfl (by decide) (w := 0) (Nat.le_of_eq rfl) (by decide) (show cells + 0 ≤ 32 by omega) (show slots + 0 ≤ 512 by omega) rfl rfl rfl rfl (fun T4 X4 => ?_)
  refine i_iload (pc' := 102) K X4 at_100 rfl rfl ?_
  by_cases hc102 : q4.1 = i9
  · rw [if_pos hc102] at hf
    refine i_icmpNo (pc' := 105) K X4 at_102 rfl (teq hc102).2 ?_
    refine i_aload (pc' := 107) K X4 at_105 rfl rfl rfl ?_
    obtain ⟨y7, g7, hf⟩ := bs hf
    obtain ⟨q6, g6, hf⟩ := bs hf
    refine callv (pc' := 110) (kc := cells) (ks := slots) (S' := [(.int q6.1)]) (st := []) K X4 (i1 := 48) rfl (i2 := 49) rfl (i5 := 51) (t := 10) rfl (i6 := 50) rfl (i3 := 2) rfl (i4 := 52) rfl (by decide) (by decide) g7 (rm8 (l := l) (n0 := n0) (K.2.2.2.2.2.2.2.2) q4.2 o8 g6) pd_8 rfl at_107 rfl rfl (by decide) (w := 0) (Nat.le_of_eq rfl) (by decide) (show cells + 0 ≤ 32 by omega) (show slots + 0 ≤ 512 by omega) rfl rfl rfl rfl (fun T6 X6 => ?_)
    refine i_iload (pc' := 112) K X6 at_110 rfl rfl ?_
    by_cases hc112 : q6.1 = i9
    · rw [if_pos hc112] at hf
      refine i_icmpNo (pc' := 115) K X6 at_112 rfl (teq hc112).2 ?_
      refine i_aload (pc' := 117) K X6 at_115 rfl rfl rfl ?_
      obtain ⟨q8, g8, hf⟩ := bs hf
      refine calls (pc' := 120) (kc := cells) (ks := slots) (S' := [(.int q8.1)]) (st := []) K X6 (i1 := 60) rfl (i2 := 61) rfl (i3 := 25) rfl (i4 := 62) rfl (by decide) (rm10 (l := l) (n0 := n0) (K.2.2.2.2.2.2.2.2) q6.2 o7 g8) pd_10 rfl at_117 rfl rfl (by decide) (w := 0) (Nat.le_of_eq rfl) (by decide) (show cells + 0 ≤ 32 by omega) (show slots + 0 ≤ 512 by omega) rfl rfl rfl rfl (fun T8 X8 => ?_)
      refine i_aload (pc' := 122) K X8 at_120 rfl rfl rfl ?_
      exact w0_122 K sep X8 i0 i1 i2 i3 i4 i5 i6 o7 o8 i9 o8 q8.1 (show cells + 0 ≤ 32 by omega) (show slots + 0 ≤ 512 by omega) hf
    · rw [if_neg hc112] at hf
      refine i_icmpYes (pc' := 132) K X6 at_112 (feq hc112).2 (by decide) (by decide) ?_
      exact w0_132 K sep X6 i0 i1 i2 i3 i4 i5 i6 o7 o8 i9 (show cells + 0 ≤ 32 by omega) (show slots + 0 ≤ 512 by omega) hf
  · rw [if_neg hc102] at hf
    refine i_icmpYes (pc' := 132) K X4 at_102 (feq hc102).2 (by decide) (by decide) ?_
    exact w0_132 K sep X4 i0 i1 i2 i3 i4 i5 i6 o7 o8 i9 (show cells + 0 ≤ 32 by omega) (show slots + 0 ≤ 512 by omega) hf
def f0_57 (A : AH) (i0 : Int32) (i3 : Int32) (i4 : Int32) (i5 : Int32) (o7 : Nat) (o8 : Nat) : Option (Int32 × AH) :=
  (h_isA A 10 o7).bind fun y2 =>
  (f8_0 A o7).bind fun q1 =>
  (f2_0 q1.2 o7 i3).bind fun q3 =>
  (f2_0 q3.2 o7 i4).bind fun q4 =>
  f0_84 q4.2 i5 o7 o8 q1.1 (((i0).toUInt32 >>> ((2 : Int32) &&& 31).toUInt32).toInt32) o7
set_option maxRecDepth 65536 in
set_option maxHeartbeats 4000000 in
theorem w0_57 (K : Cx p l e room_1 s m meth c Z a0 tables_1 "com/example/thabiti/thabiti/core/BindingsUndoPinLaw" "law" code maxLocals ret) (sep : ∀ t, Sep Z (own_D t).2) (X : On p l e room_1 s m args below meth c own_D Z n0 T A cells slots) (i0 : Int32) (i1 : Int32) (i2 : Int32) (i3 : Int32) (i4 : Int32) (i5 : Int32) (i6 : Int32) (o7 : Nat) (o8 : Nat) (hc : cells + 0 ≤ 32) (hs : slots + 0 ≤ 512) {q : Int32 × AH} (hf : f0_57 A i0 i3 i4 i5 o7 o8 = some q) :
    Go p e below (T.setTop (mkF m 57 #[.val (.int i0), .val (.int i1), .val (.int i2), .val (.int i3), .val (.int i4), .val (.int i5), .val (.int i6), .val (.ref (n0 + o7)), .val (.ref (n0 + o8)), .unset, .unset, .unset] [])) (Fini own_D Z n0 s room_1 (some (.int q.1)) q.2) := by
  unfold f0_57 at hf
  refine i_aload (pc' := 59) K X at_57 rfl rfl rfl ?_
  obtain ⟨y2, g2, hf⟩ := bs hf
  obtain ⟨q1, g1, hf⟩ := bs hf
  refine callv (pc' := 62) (kc := cells) (ks := slots) (S' := [(.int q1.1)]) (st := []) K X (i1 := 48) rfl (i2 := 49) rfl (i5 := 51) (t := 10) rfl (i6 := 50) rfl (i3 := 2) rfl (i4 := 52) rfl (by decide) (by decide) g2 (rm8 (l := l) (n0 := n0) (K.2.2.2.2.2.2.2.2) A o7 g1) pd_8 rfl at_59 rfl rfl (by decide) (w := 0) (Nat.le_of_eq rfl) (by decide) (show cells + 0 ≤ 32 by omega) (show slots + 0 ≤ 512 by omega) rfl rfl rfl rfl (fun T1 X1 => ?_)
  refine i_istore (pc' := 64) (Ls' := #[.val (.int i0), .val (.int i1), .val (.int i2), .val (.int i3), .val (.int i4), .val (.int i5), .val (.int i6), .val (.ref (n0 + o7)), .val (.ref (n0 + o8)), .val (.int q1.1), .unset, .unset]) K X1 at_62 rfl rfl ?_
  refine i_aload (pc' := 66) K X1 at_64 rfl rfl rfl ?_
  refine i_iloadN (pc' := 67) K X1 at_66 rfl rfl ?_
  obtain ⟨q3, g3, hf⟩ := bs hf
  refine calls (pc' := 70) (kc := cells) (ks := slots) (S' := [(.int q3.1)]) (st := []) K X1 (i1 := 23) rfl (i2 := 24) rfl (i3 := 25) rfl (i4 := 26) rfl (by decide) (rm2 (l := l) (n0 := n0) (K.2.2.2.2.2.2.2.2) q1.2 o7 i3 g3) pd_2 rfl at_67 rfl rfl (by decide) (w := 0) (Nat.le_of_eq rfl) (by decide) (show cells + 0 ≤ 32 by omega) (show slots + 0 ≤ 512 by omega) rfl rfl rfl rfl (fun T3 X3 => ?_)
  refine i_pop (pc' := 71) K X3 at_70 rfl rfl ?_
  refine i_aload (pc' := 73) K X3 at_71 rfl rfl rfl ?_
  refine i_iload (pc' := 75) K X3 at_73 rfl rfl ?_
  obtain ⟨q4, g4, hf⟩ := bs hf
  refine calls (pc' := 78) (kc := cells) (ks := slots) (S' := [(.int q4.1)]) (st := []) K X3 (i1 := 23) rfl (i2 := 24) rfl (i3 := 25) rfl (i4 := 26) rfl (by decide) (rm2 (l := l) (n0 := n0) (K.2.2.2.2.2.2.2.2) q3.2 o7 i4 g4) pd_2 rfl at_75 rfl rfl (by decide) (w := 0) (Nat.le_of_eq rfl) (by decide) (show cells + 0 ≤ 32 by omega) (show slots + 0 ≤ 512 by omega) rfl rfl rfl rfl (fun T4 X4 => ?_)
  refine i_pop (pc' := 79) K X4 at_78 rfl rfl ?_
  refine i_aload (pc' := 81) K X4 at_79 rfl rfl rfl ?_
  refine i_iloadN (pc' := 82) K X4 at_81 rfl rfl ?_
  refine i_iconst (pc' := 83) (v := (2 : Int32)) K X4 at_82 rfl rfl ?_
  refine i_iushr (pc' := 84) K X4 at_83 rfl ?_
  exact w0_84 K sep X4 i0 i1 i2 i3 i4 i5 i6 o7 o8 q1.1 (((i0).toUInt32 >>> ((2 : Int32) &&& 31).toUInt32).toInt32) o7 (show cells + 0 ≤ 32 by omega) (show slots + 0 ≤ 512 by omega) hf
def f0_29 (A : AH) (i0 : Int32) (i1 : Int32) (i2 : Int32) (i3 : Int32) (i4 : Int32) (i5 : Int32) (o7 : Nat) (o8 : Nat) : Option (Int32 × AH) :=
  (f2_0 A o7 i1).bind fun q1 =>
  (f2_0 q1.2 o7 i2).bind fun q2 =>
  (f2_0 q2.2 o8 i1).bind fun q3 =>
  (f2_0 q3.2 o8 i2).bind fun q4 =>
  f0_57 q4.2 i0 i3 i4 i5 o7 o8
set_option maxRecDepth 65536 in
set_option maxHeartbeats 4000000 in
theorem w0_29 (K : Cx p l e room_1 s m meth c Z a0 tables_1 "com/example/thabiti/thabiti/core/BindingsUndoPinLaw" "law" code maxLocals ret) (sep : ∀ t, Sep Z (own_D t).2) (X : On p l e room_1 s m args below meth c own_D Z n0 T A cells slots) (i0 : Int32) (i1 : Int32) (i2 : Int32) (i3 : Int32) (i4 : Int32) (i5 : Int32) (i6 : Int32) (o7 : Nat) (o8 : Nat) (hc : cells + 0 ≤ 32) (hs : slots + 0 ≤ 512) {q : Int32 × AH} (hf : f0_29 A i0 i1 i2 i3 i4 i5 o7 o8 = some q) :
    Go p e below (T.setTop (mkF m 29 #[.val (.int i0), .val (.int i1), .val (.int i2), .val (.int i3), .val (.int i4), .val (.int i5), .val (.int i6), .val (.ref (n0 + o7)), .val (.ref (n0 + o8)), .unset, .unset, .unset] [])) (Fini own_D Z n0 s room_1 (some (.int q.1)) q.2) := by
  unfold f0_29 at hf
  refine i_aload (pc' := 31) K X at_29 rfl rfl rfl ?_
  refine i_iloadN (pc' := 32) K X at_31 rfl rfl ?_
  obtain ⟨q1, g1, hf⟩ := bs hf
  refine calls (pc' := 35) (kc := cells) (ks := slots) (S' := [(.int q1.1)]) (st := []) K X (i1 := 23) rfl (i2 := 24) rfl (i3 := 25) rfl (i4 := 26) rfl (by decide) (rm2 (l := l) (n0 := n0) (K.2.2.2.2.2.2.2.2) A o7 i1 g1) pd_2 rfl at_32 rfl rfl (by decide) (w := 0) (Nat.le_of_eq rfl) (by decide) (show cells + 0 ≤ 32 by omega) (show slots + 0 ≤ 512 by omega) rfl rfl rfl rfl (fun T1 X1 => ?_)
  refine i_pop (pc' := 36) K X1 at_35 rfl rfl ?_
  refine i_aload (pc' := 38) K X1 at_36 rfl rfl rfl ?_
  refine i_iloadN (pc' := 39) K X1 at_38 rfl rfl ?_
  obtain ⟨q2, g2, hf⟩ := bs hf
  refine calls (pc' := 42) (kc := cells) (ks := slots) (S' := [(.int q2.1)]) (st := []) K X1 (i1 := 23) rfl (i2 := 24) rfl (i3 := 25) rfl (i4 := 26) rfl (by decide) (rm2 (l := l) (n0 := n0) (K.2.2.2.2.2.2.2.2) q1.2 o7 i2 g2) pd_2 rfl at_39 rfl rfl (by decide) (w := 0) (Nat.le_of_eq rfl) (by decide) (show cells + 0 ≤ 32 by omega) (show slots + 0 ≤ 512 by omega) rfl rfl rfl rfl (fun T2 X2 => ?_)
  refine i_pop (pc' := 43) K X2 at_42 rfl rfl ?_
  refine i_aload (pc' := 45) K X2 at_43 rfl rfl rfl ?_
  refine i_iloadN (pc' := 46) K X2 at_45 rfl rfl ?_
  obtain ⟨q3, g3, hf⟩ := bs hf
  refine calls (pc' := 49) (kc := cells) (ks := slots) (S' := [(.int q3.1)]) (st := []) K X2 (i1 := 23) rfl (i2 := 24) rfl (i3 := 25) rfl (i4 := 26) rfl (by decide) (rm2 (l := l) (n0 := n0) (K.2.2.2.2.2.2.2.2) q2.2 o8 i1 g3) pd_2 rfl at_46 rfl rfl (by decide) (w := 0) (Nat.le_of_eq rfl) (by decide) (show cells + 0 ≤ 32 by omega) (show slots + 0 ≤ 512 by omega) rfl rfl rfl rfl (fun T3 X3 => ?_)
  refine i_pop (pc' := 50) K X3 at_49 rfl rfl ?_
  refine i_aload (pc' := 52) K X3 at_50 rfl rfl rfl ?_
  refine i_iloadN (pc' := 53) K X3 at_52 rfl rfl ?_
  obtain ⟨q4, g4, hf⟩ := bs hf
  refine calls (pc' := 56) (kc := cells) (ks := slots) (S' := [(.int q4.1)]) (st := []) K X3 (i1 := 23) rfl (i2 := 24) rfl (i3 := 25) rfl (i4 := 26) rfl (by decide) (rm2 (l := l) (n0 := n0) (K.2.2.2.2.2.2.2.2) q3.2 o8 i2 g4) pd_2 rfl at_53 rfl rfl (by decide) (w := 0) (Nat.le_of_eq rfl) (by decide) (show cells + 0 ≤ 32 by omega) (show slots + 0 ≤ 512 by omega) rfl rfl rfl rfl (fun T4 X4 => ?_)
  refine i_pop (pc' := 57) K X4 at_56 rfl rfl ?_
  exact w0_57 K sep X4 i0 i1 i2 i3 i4 i5 i6 o7 o8 (show cells + 0 ≤ 32 by omega) (show slots + 0 ≤ 512 by omega) hf
def f0_0 (A : AH) (i0 : Int32) (i1 : Int32) (i2 : Int32) (i3 : Int32) (i4 : Int32) (i5 : Int32) : Option (Int32 × AH) :=
  (h_onew A 10 own_ds10).bind fun q1 =>
  (f1_0 q1.2 q1.1 (3 : Int32) (i0 &&& (3 : Int32))).bind fun A2 =>
  (h_onew A2 10 own_ds10).bind fun q3 =>
  (f1_0 q3.2 q3.1 (3 : Int32) (i0 &&& (3 : Int32))).bind fun A4 =>
  f0_29 A4 i0 i1 i2 i3 i4 i5 q1.1 q3.1
set_option maxRecDepth 65536 in
set_option maxHeartbeats 4000000 in
theorem w0_0 (K : Cx p l e room_1 s m meth c Z a0 tables_1 "com/example/thabiti/thabiti/core/BindingsUndoPinLaw" "law" code maxLocals ret) (sep : ∀ t, Sep Z (own_D t).2) (X : On p l e room_1 s m args below meth c own_D Z n0 T A cells slots) (i0 : Int32) (i1 : Int32) (i2 : Int32) (i3 : Int32) (i4 : Int32) (i5 : Int32) (hc : cells + 12 ≤ 32) (hs : slots + 198 ≤ 512) {q : Int32 × AH} (hf : f0_0 A i0 i1 i2 i3 i4 i5 = some q) :
    Go p e below (T.setTop (mkF m 0 #[.val (.int i0), .val (.int i1), .val (.int i2), .val (.int i3), .val (.int i4), .val (.int i5), .unset, .unset, .unset, .unset, .unset, .unset] [])) (Fini own_D Z n0 s room_1 (some (.int q.1)) q.2) := by
  unfold f0_0 at hf
  refine i_iloadN (pc' := 1) K X at_0 rfl rfl ?_
  refine i_iconst (pc' := 2) (v := (3 : Int32)) K X at_1 rfl rfl ?_
  refine i_iand (pc' := 3) K X at_2 rfl ?_
  refine i_istore (pc' := 5) (Ls' := #[.val (.int i0), .val (.int i1), .val (.int i2), .val (.int i3), .val (.int i4), .val (.int i5), .val (.int (i0 &&& (3 : Int32))), .unset, .unset, .unset, .unset, .unset]) K X at_3 rfl rfl ?_
  obtain ⟨q1, g1, hf⟩ := bs hf
  refine newo (pc' := 8) K X (i1 := 0) rfl (i2 := 1) rfl (i3 := 2) rfl at_5 (show cells + 1 ≤ 32 by omega) (show slots + 7 ≤ 512 by omega) (t := 10) (by decide) (own_dsL10 K) g1 rfl (fun T1 X1 => ?_)
  refine i_dup (pc' := 9) K X1 at_8 rfl rfl ?_
  refine i_iconst (pc' := 10) (v := (3 : Int32)) K X1 at_9 rfl rfl ?_
  refine i_iload (pc' := 12) K X1 at_10 rfl rfl ?_
  obtain ⟨A2, g2, hf⟩ := bs hf
  refine calli (pc' := 15) (kc := cells + 6) (ks := slots + 99) (st := [(.ref (n0 + q1.1))]) K X1 (i1 := 3) rfl (i2 := 4) rfl (i3 := 2) rfl (i4 := 5) rfl rfl (by decide) (rm1 (l := l) (n0 := n0) (K.2.2.2.2.2.2.2.2) q1.2 q1.1 (3 : Int32) (i0 &&& (3 : Int32)) g2) pd_1 rfl at_12 rfl rfl (by decide) (w := 1) (Nat.le_of_eq rfl) (by decide) (show cells + 1 + 5 ≤ 32 by omega) (show slots + 7 + 92 ≤ 512 by omega) rfl rfl rfl (fun T2 X2 => ?_)
  refine i_astore (pc' := 17) (Ls' := #[.val (.int i0), .val (.int i1), .val (.int i2), .val (.int i3), .val (.int i4), .val (.int i5), .val (.int (i0 &&& (3 : Int32))), .val (.ref (n0 + q1.1)), .unset, .unset, .unset, .unset]) K X2 at_15 rfl rfl rfl ?_
  obtain ⟨q3, g3, hf⟩ := bs hf
  refine newo (pc' := 20) K X2 (i1 := 0) rfl (i2 := 1) rfl (i3 := 2) rfl at_17 (show cells + 6 + 1 ≤ 32 by omega) (show slots + 99 + 7 ≤ 512 by omega) (t := 10) (by decide) (own_dsL10 K) g3 rfl (fun T3 X3 => ?_)
  refine i_dup (pc' := 21) K X3 at_20 rfl rfl ?_
  refine i_iconst (pc' := 22) (v := (3 : Int32)) K X3 at_21 rfl rfl ?_
  refine i_iload (pc' := 24) K X3 at_22 rfl rfl ?_
  obtain ⟨A4, g4, hf⟩ := bs hf
  refine calli (pc' := 27) (kc := cells + 12) (ks := slots + 198) (st := [(.ref (n0 + q3.1))]) K X3 (i1 := 3) rfl (i2 := 4) rfl (i3 := 2) rfl (i4 := 5) rfl rfl (by decide) (rm1 (l := l) (n0 := n0) (K.2.2.2.2.2.2.2.2) q3.2 q3.1 (3 : Int32) (i0 &&& (3 : Int32)) g4) pd_1 rfl at_24 rfl rfl (by decide) (w := 1) (Nat.le_of_eq rfl) (by decide) (show cells + 7 + 5 ≤ 32 by omega) (show slots + 106 + 92 ≤ 512 by omega) rfl rfl rfl (fun T4 X4 => ?_)
  refine i_astore (pc' := 29) (Ls' := #[.val (.int i0), .val (.int i1), .val (.int i2), .val (.int i3), .val (.int i4), .val (.int i5), .val (.int (i0 &&& (3 : Int32))), .val (.ref (n0 + q1.1)), .val (.ref (n0 + q3.1)), .unset, .unset, .unset]) K X4 at_27 rfl rfl rfl ?_
  exact w0_29 K sep X4 i0 i1 i2 i3 i4 i5 (i0 &&& (3 : Int32)) q1.1 q3.1 (show cells + 12 + 0 ≤ 32 by omega) (show slots + 198 + 0 ≤ 512 by omega) hf
theorem pn_0 : plainName "com/example/thabiti/thabiti/core/BindingsUndoPinLaw" = true := by first | (simp [plainName, overriddenIn]; done) | decide +kernel
theorem rm0 {l : Launch} {Z : State} {a0 : Array Value} {n0 : Nat} (hw : ∀ d ∈ tables_1, d.before a0 Z = true) (A : AH) (i0 : Int32) (i1 : Int32) (i2 : Int32) (i3 : Int32) (i4 : Int32) (i5 : Int32) {q : Int32 × AH} (hf : f0_0 A i0 i1 i2 i3 i4 i5 = some q) :
    Met l own_D Z n0 x code maxLocals ret room_1 [(.int i0), (.int i1), (.int i2), (.int i3), (.int i4), (.int i5)] A (some (.int q.1)) q.2 :=
  met (W := tables_1) (a0 := a0) (own := "com/example/thabiti/thabiti/core/BindingsUndoPinLaw") (nm := "law") (L0 := #[.val (.int i0), .val (.int i1), .val (.int i2), .val (.int i3), .val (.int i4), .val (.int i5), .unset, .unset, .unset, .unset, .unset, .unset]) (plainFor_of_name pn_0) hw rfl rfl (fun m => by first | (simp [entryFrame, mkF, argsToLocals, Value.category, maxLocals]; done) | rfl) (fun p e s m below meth c T K X => w0_0 K (own_sep hw) X i0 i1 i2 i3 i4 i5 (show 0 + 12 ≤ 32 by decide) (show 0 + 198 ≤ 512 by decide) hf)
end OwnWalk
/-! the plain law -/
abbrev own_T := Int32 × Int32 × Int32
abbrev own_Q := List Value → own_T → own_T → own_T → own_T → Int32 → AH
abbrev own_ix (j : Int32) : Prop := j = 0 ∨ j = 1 ∨ j = 2
def own_L (t : own_T) : List Value := [.int t.1, .int t.2.1, .int t.2.2]
def own_at (t : own_T) (j : Int32) : Int32 := if j = 0 then t.1 else if j = 1 then t.2.1 else t.2.2
def own_put (t : own_T) (j x : Int32) : own_T := if j = 0 then (x, t.2) else if j = 1 then (t.1, x, t.2.2) else (t.1, t.2.1, x)
def own_F (o : Nat) (fn tl : Int32) : List Value := [.ref (o + 1), .int fn, .ref (o + 2), .ref (o + 3), .ref (o + 4), .ref (o + 5), .int tl]
def own_B (o : Nat) (fn : Int32) : own_Q := fun T p z v c tl => [(10, own_F o fn tl), (0, T), (0, own_L p), (0, own_L z), (0, own_L v), (4, own_L c)]
/-- an object of ours lies at o in the heap P .. -/
def own_Lens (o : Nat) (fn : Int32) (P : own_Q) : Prop := ∀ (T : List Value) (p z v c : own_T) (tl : Int32),
  (P T p z v c tl)[o]? = some (10, own_F o fn tl) ∧ (P T p z v c tl)[o + 1]? = some (0, T) ∧ (P T p z v c tl)[o + 2]? = some (0, own_L p) ∧ (P T p z v c tl)[o + 3]? = some (0, own_L z) ∧ (P T p z v c tl)[o + 4]? = some (0, own_L v) ∧ (P T p z v c tl)[o + 5]? = some (4, own_L c) ∧
  (∀ tl', (P T p z v c tl).set o (10, own_F o fn tl') = P T p z v c tl') ∧ (∀ T', (P T p z v c tl).set (o + 1) (0, T') = P T' p z v c tl) ∧ (∀ t, (P T p z v c tl).set (o + 2) (0, own_L t) = P T t z v c tl) ∧ (∀ t, (P T p z v c tl).set (o + 3) (0, own_L t) = P T p t v c tl) ∧ (∀ t, (P T p z v c tl).set (o + 4) (0, own_L t) = P T p z t c tl) ∧ (∀ t, (P T p z v c tl).set (o + 5) (4, own_L t) = P T p z v t tl)
theorem own_b {α β : Type} {x : Option α} {a : α} {f : α → Option β} {r : Option β} (h : x = some a) (k : f a = r) : x.bind f = r := by
  rw [h]; exact k
theorem own_at0 (t : own_T) : own_at t 0 = t.1 := rfl
theorem own_at1 (t : own_T) : own_at t 1 = t.2.1 := rfl
theorem own_at2 (t : own_T) : own_at t 2 = t.2.2 := rfl
theorem own_pp {t : own_T} {r x y : Int32} (hr : own_ix r) : own_put (own_put t r x) r y = own_put t r y := by
  rcases hr with rfl | rfl | rfl <;> rfl
theorem own_pa {t : own_T} {r : Int32} (hr : own_ix r) : own_put t r (own_at t r) = t := by
  rcases hr with rfl | rfl | rfl <;> rfl
theorem own_pc {t : own_T} {r x : Int32} (hr : own_ix r) (e : own_at t r = r) : own_put (own_put t r x) r r = t := by
  rw [own_pp hr]
  have q := own_pa (t := t) hr
  rw [e] at q
  exact q
theorem own_cc (a b : Int32) : (if a = 0 then (if b = 0 then (0 : Int32) else 1) else 1) = 0 ∨ (if a = 0 then (if b = 0 then (0 : Int32) else 1) else 1) = 1 := by
  by_cases h : a = 0
  · rw [if_pos h]
    by_cases g : b = 0
    · rw [if_pos g]; exact Or.inl rfl
    · rw [if_neg g]; exact Or.inr rfl
  · rw [if_neg h]; exact Or.inr rfl
theorem own_ap {t : own_T} {r j x : Int32} (hr : own_ix r) (hj : own_ix j) : own_at (own_put t r x) j = if j = r then x else own_at t j := by
  rcases hr with rfl | rfl | rfl <;> rcases hj with rfl | rfl | rfl <;> rfl
theorem own_rd {A : AH} {t a : Nat} {tr : own_T} {j : Int32} (hA : A[a]? = some (t, own_L tr)) (hj : own_ix j) : asI (h_aget A t a j) = some (own_at tr j) := by
  rcases hj with rfl | rfl | rfl
  · rw [aget_ok hA (by decide)]; rfl
  · rw [aget_ok hA (by decide)]; rfl
  · rw [aget_ok hA (by decide)]; rfl
theorem own_wr {A : AH} {t a : Nat} {tr : own_T} {j x : Int32} (hA : A[a]? = some (t, own_L tr)) (hj : own_ix j) : h_aset A t a j (.int x) = some (A.set a (t, own_L (own_put tr j x))) := by
  rcases hj with rfl | rfl | rfl
  · rw [aset_ok hA (by decide) (show _ < ((3 : Nat) : Int) from by decide)]; rfl
  · rw [aset_ok hA (by decide) (show _ < ((3 : Nat) : Int) from by decide)]; rfl
  · rw [aset_ok hA (by decide) (show _ < ((3 : Nat) : Int) from by decide)]; rfl
theorem own_fset {A : AH} {t a k : Nat} {vs : List Value} {x : Value} (hA : A[a]? = some (t, vs)) (hk : k < vs.length) : h_fset A t a k x = some (A.set a (t, vs.set k x)) := by
  unfold h_fset
  rw [hA]
  show (if t = t ∧ k < vs.length then some (A.set a (t, vs.set k x)) else none) = _
  rw [if_pos ⟨rfl, hk⟩]
theorem own_is {o : Nat} {fn : Int32} {P : own_Q} (hP : own_Lens o fn P) {T : List Value} {p z v c : own_T} {tl : Int32} : h_isA (P T p z v c tl) 10 o = some () := by
  unfold h_isA; rw [(hP T p z v c tl).1]; rfl
theorem own_q0 {o : Nat} {fn : Int32} {P : own_Q} (hP : own_Lens o fn P) {T : List Value} {p z v c : own_T} {tl : Int32} : asR (h_fget (P T p z v c tl) 10 o 0) = some (o + 1) := by
  unfold h_fget; rw [(hP T p z v c tl).1]; rfl
theorem own_q2 {o : Nat} {fn : Int32} {P : own_Q} (hP : own_Lens o fn P) {T : List Value} {p z v c : own_T} {tl : Int32} : asR (h_fget (P T p z v c tl) 10 o 2) = some (o + 2) := by
  unfold h_fget; rw [(hP T p z v c tl).1]; rfl
theorem own_q3 {o : Nat} {fn : Int32} {P : own_Q} (hP : own_Lens o fn P) {T : List Value} {p z v c : own_T} {tl : Int32} : asR (h_fget (P T p z v c tl) 10 o 3) = some (o + 3) := by
  unfold h_fget; rw [(hP T p z v c tl).1]; rfl
theorem own_q4 {o : Nat} {fn : Int32} {P : own_Q} (hP : own_Lens o fn P) {T : List Value} {p z v c : own_T} {tl : Int32} : asR (h_fget (P T p z v c tl) 10 o 4) = some (o + 4) := by
  unfold h_fget; rw [(hP T p z v c tl).1]; rfl
theorem own_q5 {o : Nat} {fn : Int32} {P : own_Q} (hP : own_Lens o fn P) {T : List Value} {p z v c : own_T} {tl : Int32} : asR (h_fget (P T p z v c tl) 10 o 5) = some (o + 5) := by
  unfold h_fget; rw [(hP T p z v c tl).1]; rfl
theorem own_i1 {o : Nat} {fn : Int32} {P : own_Q} (hP : own_Lens o fn P) {T : List Value} {p z v c : own_T} {tl : Int32} : asI (h_fget (P T p z v c tl) 10 o 1) = some fn := by
  unfold h_fget; rw [(hP T p z v c tl).1]; rfl
theorem own_i6 {o : Nat} {fn : Int32} {P : own_Q} (hP : own_Lens o fn P) {T : List Value} {p z v c : own_T} {tl : Int32} : asI (h_fget (P T p z v c tl) 10 o 6) = some tl := by
  unfold h_fget; rw [(hP T p z v c tl).1]; rfl
theorem own_s6 {o : Nat} {fn : Int32} {P : own_Q} (hP : own_Lens o fn P) {T : List Value} {p z v c : own_T} {tl : Int32} {x : Int32} : h_fset (P T p z v c tl) 10 o 6 (.int x) = some (P T p z v c x) :=
  (own_fset (hP T p z v c tl).1 (show 6 < 7 by decide)).trans (congrArg some ((hP T p z v c tl).2.2.2.2.2.2.1 x))
theorem own_r2 {o : Nat} {fn : Int32} {P : own_Q} (hP : own_Lens o fn P) {T : List Value} {p z v c : own_T} {tl : Int32} {j : Int32} (hj : own_ix j) : asI (h_aget (P T p z v c tl) 0 (o + 2) j) = some (own_at p j) :=
  own_rd (hP T p z v c tl).2.2.1 hj
theorem own_w2 {o : Nat} {fn : Int32} {P : own_Q} (hP : own_Lens o fn P) {T : List Value} {p z v c : own_T} {tl : Int32} {j x : Int32} (hj : own_ix j) : h_aset (P T p z v c tl) 0 (o + 2) j (.int x) = some (P T (own_put p j x) z v c tl) :=
  (own_wr (hP T p z v c tl).2.2.1 hj).trans (congrArg some ((hP T p z v c tl).2.2.2.2.2.2.2.2.1 _))
theorem own_r3 {o : Nat} {fn : Int32} {P : own_Q} (hP : own_Lens o fn P) {T : List Value} {p z v c : own_T} {tl : Int32} {j : Int32} (hj : own_ix j) : asI (h_aget (P T p z v c tl) 0 (o + 3) j) = some (own_at z j) :=
  own_rd (hP T p z v c tl).2.2.2.1 hj
theorem own_w3 {o : Nat} {fn : Int32} {P : own_Q} (hP : own_Lens o fn P) {T : List Value} {p z v c : own_T} {tl : Int32} {j x : Int32} (hj : own_ix j) : h_aset (P T p z v c tl) 0 (o + 3) j (.int x) = some (P T p (own_put z j x) v c tl) :=
  (own_wr (hP T p z v c tl).2.2.2.1 hj).trans (congrArg some ((hP T p z v c tl).2.2.2.2.2.2.2.2.2.1 _))
theorem own_r4 {o : Nat} {fn : Int32} {P : own_Q} (hP : own_Lens o fn P) {T : List Value} {p z v c : own_T} {tl : Int32} {j : Int32} (hj : own_ix j) : asI (h_aget (P T p z v c tl) 0 (o + 4) j) = some (own_at v j) :=
  own_rd (hP T p z v c tl).2.2.2.2.1 hj
theorem own_w4 {o : Nat} {fn : Int32} {P : own_Q} (hP : own_Lens o fn P) {T : List Value} {p z v c : own_T} {tl : Int32} {j x : Int32} (hj : own_ix j) : h_aset (P T p z v c tl) 0 (o + 4) j (.int x) = some (P T p z (own_put v j x) c tl) :=
  (own_wr (hP T p z v c tl).2.2.2.2.1 hj).trans (congrArg some ((hP T p z v c tl).2.2.2.2.2.2.2.2.2.2.1 _))
theorem own_r5 {o : Nat} {fn : Int32} {P : own_Q} (hP : own_Lens o fn P) {T : List Value} {p z v c : own_T} {tl : Int32} {j : Int32} (hj : own_ix j) : asI (h_aget (P T p z v c tl) 4 (o + 5) j) = some (own_at c j) :=
  own_rd (hP T p z v c tl).2.2.2.2.2.1 hj
theorem own_w5 {o : Nat} {fn : Int32} {P : own_Q} (hP : own_Lens o fn P) {T : List Value} {p z v c : own_T} {tl : Int32} {j x : Int32} (hj : own_ix j) : h_aset (P T p z v c tl) 4 (o + 5) j (.int x) = some (P T p z v (own_put c j x) tl) :=
  (own_wr (hP T p z v c tl).2.2.2.2.2.1 hj).trans (congrArg some ((hP T p z v c tl).2.2.2.2.2.2.2.2.2.2.2 _))
theorem own_rT {o : Nat} {fn : Int32} {P : own_Q} (hP : own_Lens o fn P) {T : List Value} {p z v c : own_T} {tl : Int32} {j : Int32} (h0 : 0 ≤ j.toInt) : h_aget (P T p z v c tl) 0 (o + 1) j = T[j.toInt.toNat]? :=
  aget_ok (hP T p z v c tl).2.1 h0
theorem own_wT {o : Nat} {fn : Int32} {P : own_Q} (hP : own_Lens o fn P) {T : List Value} {p z v c : own_T} {tl : Int32} {j : Int32} {x : Value} (h0 : 0 ≤ j.toInt) (h1 : j.toInt < T.length) : h_aset (P T p z v c tl) 0 (o + 1) j x = some (P (T.set j.toInt.toNat x) p z v c tl) :=
  (aset_ok (hP T p z v c tl).2.1 h0 h1).trans (congrArg some ((hP T p z v c tl).2.2.2.2.2.2.2.1 _))
theorem own_lT {o : Nat} {fn : Int32} {P : own_Q} (hP : own_Lens o fn P) {T : List Value} {p z v c : own_T} {tl : Int32} : h_alen (P T p z v c tl) 0 (o + 1) = some T.length.toInt32 := by
  unfold h_alen; rw [(hP T p z v c tl).2.1]; rfl
/-- a frame on the trail -/
def own_fr (T : List Value) (n : Nat) (a b c d e : Int32) : List Value := ((((T.set n (.int a)).set (n + 1) (.int b)).set (n + 2) (.int c)).set (n + 3) (.int d)).set (n + 4) (.int e)
theorem own_frl (T : List Value) (n : Nat) (a b c d e : Int32) : (own_fr T n a b c d e).length = T.length := by
  unfold own_fr; simp only [List.length_set]
theorem own_ad (x k : Int32) (n : Int) (hk : k.toInt = n) (h0 : 0 ≤ x.toInt) (h1 : x.toInt ≤ 75) (n0 : 0 ≤ n) (n1 : n ≤ 10) : (x + k).toInt = x.toInt + n := by
  have a := c_iadd x k
  have r := rng32 (x + k)
  omega
theorem own_14 {o : Nat} {fn : Int32} {P : own_Q} (hP : own_Lens o fn P) {T : List Value} {p z v c : own_T} {tl : Int32} {r ch : Int32} (hr : own_ix r) (hT : T.length = 80) (t0 : 0 ≤ tl.toInt) (t1 : tl.toInt ≤ 75) (hc : own_at c r = 0 ∨ own_at c r = 1) : f14_0 (P T p z v c tl) o r ch = some (P (own_fr T tl.toInt.toNat r (own_at z r) (own_at v r) (own_at c r) ch) p z v c (tl + 5)) := by
  have e1 := own_ad tl 1 1 (by decide) t0 t1 (by decide) (by decide)
  have e2 := own_ad tl 2 2 (by decide) t0 t1 (by decide) (by decide)
  have e3 := own_ad tl 3 3 (by decide) t0 t1 (by decide) (by decide)
  have e4 := own_ad tl 4 4 (by decide) t0 t1 (by decide) (by decide)
  have e5 := own_ad tl 5 5 (by decide) t0 t1 (by decide) (by decide)
  have n1 : (tl + 1).toInt.toNat = tl.toInt.toNat + 1 := by omega
  have n2 : (tl + 2).toInt.toNat = tl.toInt.toNat + 2 := by omega
  have n3 : (tl + 3).toInt.toNat = tl.toInt.toNat + 3 := by omega
  have n4 : (tl + 4).toInt.toNat = tl.toInt.toNat + 4 := by omega
  unfold f14_0
  refine own_b (own_i6 hP) ?_
  refine own_b (own_q0 hP) ?_
  refine own_b (own_lT hP) ?_
  refine (if_neg ?_).trans ?_
  · rw [hT, Int32.lt_iff_toInt_lt, e5]
    show ¬ (80 : Int) < _
    omega
  refine own_b (own_q0 hP) ?_
  refine own_b (own_i6 hP) ?_
  refine own_b (own_wT hP t0 (by omega)) ?_
  refine own_b (own_q0 hP) ?_
  unfold f14_46
  refine own_b (own_i6 hP) ?_
  refine own_b (own_q3 hP) ?_
  refine own_b (own_r3 hP hr) ?_
  refine own_b (own_wT hP (by omega) (by simp only [List.length_set]; omega)) ?_
  refine own_b (own_q0 hP) ?_
  refine own_b (own_i6 hP) ?_
  unfold f14_70
  refine own_b (own_q4 hP) ?_
  refine own_b (own_r4 hP hr) ?_
  refine own_b (own_wT hP (by omega) (by simp only [List.length_set]; omega)) ?_
  refine own_b (own_q0 hP) ?_
  refine own_b (own_i6 hP) ?_
  refine own_b (own_q5 hP) ?_
  refine own_b (own_r5 hP hr) ?_
  rcases hc with hc | hc
  · refine (if_pos hc).trans ?_
    unfold f14_100
    refine own_b (own_wT hP (by omega) (by simp only [List.length_set]; omega)) ?_
    refine own_b (own_q0 hP) ?_
    refine own_b (own_i6 hP) ?_
    refine own_b (own_wT hP (by omega) (by simp only [List.length_set]; omega)) ?_
    refine own_b (own_i6 hP) ?_
    refine own_b (own_s6 hP) ?_
    unfold own_fr
    rw [n1, n2, n3, n4, hc]
  · refine (if_neg (by rw [hc]; decide)).trans ?_
    unfold f14_96 f14_100
    refine own_b (own_wT hP (by omega) (by simp only [List.length_set]; omega)) ?_
    refine own_b (own_q0 hP) ?_
    refine own_b (own_i6 hP) ?_
    refine own_b (own_wT hP (by omega) (by simp only [List.length_set]; omega)) ?_
    refine own_b (own_i6 hP) ?_
    refine own_b (own_s6 hP) ?_
    unfold own_fr
    rw [n1, n2, n3, n4, hc]
/-! ### roots -/
def own_root (p : own_T) (i : Int32) : Int32 := own_at p (own_at p i)
abbrev own_fo (p : own_T) : Prop := own_ix p.1 ∧ own_ix p.2.1 ∧ own_ix p.2.2 ∧ own_at p (own_root p 0) = own_root p 0 ∧ own_at p (own_root p 1) = own_root p 1 ∧ own_at p (own_root p 2) = own_root p 2
theorem own_ixp {p : own_T} (fo : own_fo p) {i : Int32} (hi : own_ix i) : own_ix (own_at p i) := by
  rcases hi with rfl | rfl | rfl
  · exact fo.1
  · exact fo.2.1
  · exact fo.2.2.1
theorem own_ixr {p : own_T} (fo : own_fo p) {i : Int32} (hi : own_ix i) : own_ix (own_root p i) := own_ixp fo (own_ixp fo hi)
theorem own_rt {p : own_T} (fo : own_fo p) {i : Int32} (hi : own_ix i) : own_at p (own_root p i) = own_root p i := by
  rcases hi with rfl | rfl | rfl
  · exact fo.2.2.2.1
  · exact fo.2.2.2.2.1
  · exact fo.2.2.2.2.2
set_option maxHeartbeats 4000000 in
theorem own_join' (a b c ch k : Int32) (ha : own_ix a) (hb : own_ix b) (hc : own_ix c) (hch : own_ix ch) (hk : own_ix k) : own_fo (a, b, c) → own_at (a, b, c) ch = ch → own_at (a, b, c) k = k → ch ≠ k → own_fo (own_put (a, b, c) ch k) := by
  rcases ha with rfl | rfl | rfl <;> rcases hb with rfl | rfl | rfl <;> rcases hc with rfl | rfl | rfl <;> rcases hch with rfl | rfl | rfl <;> rcases hk with rfl | rfl | rfl <;> decide
theorem own_join {p : own_T} {ch k : Int32} (fo : own_fo p) (hch : own_ix ch) (hk : own_ix k) (e1 : own_at p ch = ch) (e2 : own_at p k = k) (ne : ch ≠ k) : own_fo (own_put p ch k) :=
  own_join' p.1 p.2.1 p.2.2 ch k fo.1 fo.2.1 fo.2.2.1 hch hk fo e1 e2 ne
theorem own_f1 {o : Nat} {fn : Int32} {P : own_Q} (hP : own_Lens o fn P) {T : List Value} {p z v c : own_T} {tl : Int32} {i : Int32} (n : Nat) (hi : own_ix i) : f11_2 (n + 1) (P T p z v c tl) o i = if own_at p i = i then some (i, (P T p z v c tl)) else f11_2 n (P T p z v c tl) o (own_at p i) := by
  show g11_2 (f11_2 n) (P T p z v c tl) o i = _
  unfold g11_2
  refine own_b (own_q2 hP) ?_
  refine own_b (own_r2 hP hi) ?_
  by_cases e : own_at p i = i
  · rw [if_pos e, if_pos e]
  · rw [if_neg e, if_neg e]
    refine own_b (own_q2 hP) ?_
    exact own_b (own_r2 hP hi) rfl
theorem own_11 {o : Nat} {fn : Int32} {P : own_Q} (hP : own_Lens o fn P) {T : List Value} {p z v c : own_T} {tl : Int32} {i : Int32} (fo : own_fo p) (hi : own_ix i) : f11_0 (P T p z v c tl) o i = some (own_root p i, (P T p z v c tl)) := by
  unfold f11_0
  rw [own_f1 hP 7 hi]
  by_cases e : own_at p i = i
  · rw [if_pos e, show own_root p i = i from by unfold own_root; rw [e, e]]
  · rw [if_neg e, own_f1 hP 6 (own_ixp fo hi)]
    by_cases e2 : own_at p (own_at p i) = own_at p i
    · rw [if_pos e2, show own_root p i = own_at p i from e2]
    · rw [if_neg e2, own_f1 hP 5 (own_ixp fo (own_ixp fo hi)), if_pos (show own_at p (own_at p (own_at p i)) = own_at p (own_at p i) from own_rt fo hi)]
      rfl
def own_res (p v : own_T) (i : Int32) : Int32 := if i < 0 then i else if own_at v (own_root p i) = -1 then own_root p i else f6_0 (own_at v (own_root p i))
theorem own_5 {o : Nat} {fn : Int32} {P : own_Q} (hP : own_Lens o fn P) {T : List Value} {p z v c : own_T} {tl : Int32} {i : Int32} (fo : own_fo p) (hi : i < 0 ∨ own_ix i) : f5_0 (P T p z v c tl) o i = some (own_res p v i, (P T p z v c tl)) := by
  unfold f5_0 own_res
  by_cases n : i < 0
  · rw [if_pos n, if_pos n]; rfl
  · rw [if_neg n, if_neg n]
    have hi' : own_ix i := hi.resolve_left n
    refine own_b (own_is hP) ?_
    refine own_b (own_11 hP fo hi') ?_
    dsimp only
    refine own_b (own_q4 hP) ?_
    refine own_b (own_r4 hP (own_ixr fo hi')) ?_
    by_cases m : own_at v (own_root p i) = -1
    · rw [if_pos m, if_pos m]; rfl
    · rw [if_neg m, if_neg m]
      refine own_b (own_q4 hP) ?_
      unfold f5_30
      exact own_b (own_r4 hP (own_ixr fo hi')) rfl
def own_vm (v : own_T) : Prop := ∀ j, own_ix j → -1 ≤ (own_at v j).toInt
def own_cb (c : own_T) : Prop := ∀ j, own_ix j → own_at c j = 0 ∨ own_at c j = 1
def own_K (p v c : own_T) : Prop := own_fo p ∧ own_vm v ∧ own_cb c
theorem own_neg {x : Int32} (h : -1 ≤ x.toInt) (n : x ≠ -1) : f6_0 x < 0 := by
  unfold f6_0
  rw [Int32.lt_iff_toInt_lt]
  show _ < (0 : Int)
  have a := c_isub (-1) x
  rw [show (-1 : Int32).toInt = -1 from by decide] at a
  have r := rng32 (-1 - x)
  have rx := rng32 x
  have n' : x.toInt ≠ -1 := fun q => n (Int32.toInt_inj.mp (by rw [q]; decide))
  omega
theorem own_pos {x : Int32} (h : x < 0) : 0 ≤ (f6_0 x).toInt := by
  unfold f6_0
  rw [Int32.lt_iff_toInt_lt] at h
  have h' : x.toInt < (0 : Int) := h
  have a := c_isub (-1) x
  rw [show (-1 : Int32).toInt = -1 from by decide] at a
  have r := rng32 (-1 - x)
  have rx := rng32 x
  omega
theorem own_rs {p v : own_T} {i : Int32} (fo : own_fo p) (vm : own_vm v) (hi : i < 0 ∨ own_ix i) : own_res p v i < 0 ∨ (own_ix (own_res p v i) ∧ own_at p (own_res p v i) = own_res p v i) := by
  unfold own_res
  by_cases n : i < 0
  · rw [if_pos n]; exact Or.inl n
  · have hi' : own_ix i := hi.resolve_left n
    rw [if_neg n]
    by_cases m : own_at v (own_root p i) = -1
    · rw [if_pos m]; exact Or.inr ⟨own_ixr fo hi', own_rt fo hi'⟩
    · rw [if_neg m]; exact Or.inl (own_neg (vm _ (own_ixr fo hi')) m)
theorem own_vmp {v : own_T} {r x : Int32} (hr : own_ix r) (vm : own_vm v) (hx : -1 ≤ x.toInt) : own_vm (own_put v r x) := by
  intro j hj
  rw [own_ap hr hj]
  split
  · exact hx
  · exact vm j hj
theorem own_cbp {c : own_T} {r x : Int32} (hr : own_ix r) (cb : own_cb c) (hx : x = 0 ∨ x = 1) : own_cb (own_put c r x) := by
  intro j hj
  rw [own_ap hr hj]
  split
  · exact hx
  · exact cb j hj
/-! ### one step: it leaves all, or lays one frame that undo takes back -/
def own_R (T : List Value) (p z v c : own_T) (tl : Int32) (T' : List Value) (p' z' v' c' : own_T) (tl' : Int32) : Prop :=
  (T' = T ∧ p' = p ∧ z' = z ∧ v' = v ∧ c' = c ∧ tl' = tl) ∨
  (tl' = tl + 5 ∧ ∃ r ch, own_ix r ∧ T' = own_fr T tl.toInt.toNat r (own_at z r) (own_at v r) (own_at c r) ch ∧ own_put z' r (own_at z r) = z ∧ own_put v' r (own_at v r) = v ∧ own_put c' r (own_at c r) = c ∧ ((ch < 0 ∧ p' = p) ∨ (own_ix ch ∧ own_put p' ch ch = p)))
def own_Step (fn : Int32) (F : AH → Nat → Option (Int32 × AH)) (p z v c : own_T) (tl : Int32) : Prop := ∃ (r : Int32) (p' z' v' c' : own_T) (tl' : Int32), own_K p' v' c' ∧ tl.toInt ≤ tl'.toInt ∧ tl'.toInt ≤ tl.toInt + 5 ∧
  ∀ T : List Value, T.length = 80 → ∃ T' : List Value, T'.length = 80 ∧ own_R T p z v c tl T' p' z' v' c' tl' ∧ ∀ (o : Nat) (P : own_Q), own_Lens o fn P → F (P T p z v c tl) o = some (r, P T' p' z' v' c' tl')
theorem own_same {fn : Int32} {F : AH → Nat → Option (Int32 × AH)} {p z v c : own_T} {tl : Int32} (hK : own_K p v c) (r : Int32) (h : ∀ (T : List Value) (o : Nat) (P : own_Q), own_Lens o fn P → F (P T p z v c tl) o = some (r, P T p z v c tl)) : own_Step fn F p z v c tl :=
  ⟨r, p, z, v, c, tl, hK, by omega, by omega, fun T hT => ⟨T, hT, Or.inl ⟨rfl, rfl, rfl, rfl, rfl, rfl⟩, fun o P hP => h T o P hP⟩⟩
theorem own_one {fn : Int32} {F : AH → Nat → Option (Int32 × AH)} {p z v c : own_T} {tl : Int32} (t0 : 0 ≤ tl.toInt) (t1 : tl.toInt ≤ 75) (r : Int32) (p' z' v' c' : own_T) (hK : own_K p' v' c') (k ch : Int32) (hk : own_ix k) (hz : own_put z' k (own_at z k) = z) (hv : own_put v' k (own_at v k) = v) (hc : own_put c' k (own_at c k) = c) (hp : (ch < 0 ∧ p' = p) ∨ (own_ix ch ∧ own_put p' ch ch = p))
    (h : ∀ T : List Value, T.length = 80 → ∀ (o : Nat) (P : own_Q), own_Lens o fn P → F (P T p z v c tl) o = some (r, P (own_fr T tl.toInt.toNat k (own_at z k) (own_at v k) (own_at c k) ch) p' z' v' c' (tl + 5))) : own_Step fn F p z v c tl := by
  have e5 := own_ad tl 5 5 (by decide) t0 t1 (by decide) (by decide)
  exact ⟨r, p', z', v', c', tl + 5, hK, by omega, by omega, fun T hT => ⟨_, (own_frl T _ _ _ _ _ _).trans hT, Or.inr ⟨rfl, k, ch, hk, rfl, hz, hv, hc, hp⟩, h T hT⟩⟩
theorem own_to {fn : Int32} {F G : AH → Nat → Option (Int32 × AH)} {p z v c : own_T} {tl : Int32} (h : ∀ (T : List Value) (o : Nat) (P : own_Q), own_Lens o fn P → F (P T p z v c tl) o = G (P T p z v c tl) o) (hG : own_Step fn G p z v c tl) : own_Step fn F p z v c tl := by
  obtain ⟨r, p', z', v', c', tl', hK, a, b, g⟩ := hG
  refine ⟨r, p', z', v', c', tl', hK, a, b, fun T hT => ?_⟩
  obtain ⟨T', g1, g2, g3⟩ := g T hT
  exact ⟨T', g1, g2, fun o P hP => (h T o P hP).trans (g3 o P hP)⟩
theorem own_eq {fn : Int32} {F G : AH → Nat → Option (Int32 × AH)} {p z v c : own_T} {tl : Int32} (k : Int32 → Int32) (h : ∀ (T : List Value) (o : Nat) (P : own_Q), own_Lens o fn P → F (P T p z v c tl) o = (G (P T p z v c tl) o).bind fun q => some (k q.1, q.2)) (hG : own_Step fn G p z v c tl) : own_Step fn F p z v c tl := by
  obtain ⟨r, p', z', v', c', tl', hK, a, b, g⟩ := hG
  refine ⟨k r, p', z', v', c', tl', hK, a, b, fun T hT => ?_⟩
  obtain ⟨T', g1, g2, g3⟩ := g T hT
  exact ⟨T', g1, g2, fun o P hP => (h T o P hP).trans (own_b (g3 o P hP) rfl)⟩
theorem own_13 {fn : Int32} {p z v c : own_T} {tl : Int32} (hK : own_K p v c) (t0 : 0 ≤ tl.toInt) (t1 : tl.toInt ≤ 75) {r x : Int32} (hr : own_ix r) (hx : 0 ≤ x.toInt) : own_Step fn (fun A o => f13_0 A o r x) p z v c tl := by
  have go : own_Step fn (fun A o => f13_19 A o r x) p z v c tl := by
    refine own_one t0 t1 1 p z (own_put v r x) c ⟨hK.1, own_vmp hr hK.2.1 (by omega), hK.2.2⟩ r (-1) hr (own_pa hr) (by rw [own_pp hr, own_pa hr]) (own_pa hr) (Or.inl ⟨by decide, rfl⟩) (fun T hT o P hP => ?_)
    show f13_19 (P T p z v c tl) o r x = _
    unfold f13_19
    refine own_b (own_is hP) ?_
    refine own_b (own_14 hP hr hT t0 t1 (hK.2.2 r hr)) ?_
    refine own_b (own_q4 hP) ?_
    refine own_b (own_w4 hP hr) ?_
    rw [nar1]
  by_cases a : own_at c r = 0
  · refine own_to (fun T o P hP => ?_) go
    show f13_0 (P T p z v c tl) o r x = f13_19 (P T p z v c tl) o r x
    unfold f13_0
    refine own_b (own_q5 hP) ?_
    refine own_b (own_r5 hP hr) ?_
    exact if_pos a
  · by_cases b : x < fn
    · refine own_to (fun T o P hP => ?_) go
      show f13_0 (P T p z v c tl) o r x = f13_19 (P T p z v c tl) o r x
      unfold f13_0
      refine own_b (own_q5 hP) ?_
      refine own_b (own_r5 hP hr) ?_
      refine (if_neg a).trans ?_
      refine own_b (own_i1 hP) ?_
      exact if_pos b
    · refine own_same hK 0 (fun T o P hP => ?_)
      show f13_0 (P T p z v c tl) o r x = _
      unfold f13_0
      refine own_b (own_q5 hP) ?_
      refine own_b (own_r5 hP hr) ?_
      refine (if_neg a).trans ?_
      refine own_b (own_i1 hP) ?_
      refine (if_neg b).trans ?_
      rw [nar0]
theorem own_31 {fn : Int32} {p z v c : own_T} {tl : Int32} (hK : own_K p v c) (t0 : 0 ≤ tl.toInt) (t1 : tl.toInt ≤ 75) {k ch : Int32} (hk : own_ix k) (hch : own_ix ch) (ek : own_at p k = k) (ech : own_at p ch = ch) (ne : ch ≠ k) : own_Step fn (fun A o => (f16_31 A o k ch).bind fun A1 => f7_89 A1 1) p z v c tl := by
  refine own_one t0 t1 1 (own_put p ch k) (own_put z k (own_at z k + own_at z ch)) v (own_put c k (if own_at c k = 0 then (if own_at c ch = 0 then 0 else 1) else 1)) ⟨own_join hK.1 hch hk ech ek ne, hK.2.1, own_cbp hk hK.2.2 (own_cc _ _)⟩ k ch hk (by rw [own_pp hk, own_pa hk]) (own_pa hk) (by rw [own_pp hk, own_pa hk]) (Or.inr ⟨hch, own_pc hch ech⟩) (fun T hT o P hP => ?_)
  show (f16_31 (P T p z v c tl) o k ch).bind (fun A1 => f7_89 A1 1) = _
  refine own_b (a := P (own_fr T tl.toInt.toNat k (own_at z k) (own_at v k) (own_at c k) ch) (own_put p ch k) (own_put z k (own_at z k + own_at z ch)) v (own_put c k (if own_at c k = 0 then (if own_at c ch = 0 then 0 else 1) else 1)) (tl + 5)) ?_ ?_
  · unfold f16_31
    refine own_b (own_is hP) ?_
    refine own_b (own_14 hP hk hT t0 t1 (hK.2.2 k hk)) ?_
    refine own_b (own_q2 hP) ?_
    refine own_b (own_w2 hP hch) ?_
    refine own_b (own_q3 hP) ?_
    refine own_b (own_r3 hP hk) ?_
    unfold f16_56
    refine own_b (own_q3 hP) ?_
    refine own_b (own_r3 hP hch) ?_
    refine own_b (own_w3 hP hk) ?_
    refine own_b (own_q5 hP) ?_
    refine own_b (own_q5 hP) ?_
    refine own_b (own_r5 hP hk) ?_
    by_cases a : own_at c k = 0
    · rw [if_pos a, if_pos a]
      refine own_b (own_q5 hP) ?_
      unfold f16_84
      refine own_b (own_r5 hP hch) ?_
      by_cases b : own_at c ch = 0
      · rw [if_pos b, if_pos b]
        unfold f16_93
        rw [nar0]
        exact own_b (own_w5 hP hk) rfl
      · rw [if_neg b, if_neg b]
        unfold f16_88 f16_93
        rw [nar1]
        exact own_b (own_w5 hP hk) rfl
    · rw [if_neg a, if_neg a]
      unfold f16_88 f16_93
      rw [nar1]
      exact own_b (own_w5 hP hk) rfl
  · unfold f7_89
    rw [nar1]
theorem own_16 {o : Nat} {fn : Int32} {P : own_Q} (hP : own_Lens o fn P) {T : List Value} {p z v c : own_T} {tl : Int32} {a b : Int32} (ha : own_ix a) (hb : own_ix b) (ne : a ≠ b) : f16_0 (P T p z v c tl) o a b = if own_at z a < own_at z b then f16_31 (P T p z v c tl) o b a else f16_31 (P T p z v c tl) o a b := by
  unfold f16_0 f16_20
  refine own_b (own_q3 hP) ?_
  refine own_b (own_r3 hP ha) ?_
  refine own_b (own_q3 hP) ?_
  refine own_b (own_r3 hP hb) ?_
  by_cases e : own_at z a < own_at z b
  · rw [if_pos e, if_pos e, if_neg (Ne.symm ne)]
  · rw [if_neg e, if_neg e, if_pos rfl]
theorem own_40 {fn : Int32} {p z v c : own_T} {tl : Int32} (hK : own_K p v c) (t0 : 0 ≤ tl.toInt) (t1 : tl.toInt ≤ 75) {i3 i4 : Int32} (h3 : i3 < 0 ∨ (own_ix i3 ∧ own_at p i3 = i3)) (h4 : i4 < 0 ∨ (own_ix i4 ∧ own_at p i4 = i4)) (nb : ¬ (i3 < 0 ∧ i4 < 0)) (ne : i3 ≠ i4) : own_Step fn (fun A o => f7_40 A o i3 i4) p z v c tl := by
  by_cases a : i3 < 0
  · obtain ⟨x4, y4⟩ := h4.resolve_left (fun q => nb ⟨a, q⟩)
    refine own_eq (nar .boolean) (fun T o P hP => ?_) (own_13 hK t0 t1 x4 (own_pos a))
    show f7_40 (P T p z v c tl) o i3 i4 = (f13_0 (P T p z v c tl) o i4 (f6_0 i3)).bind _
    unfold f7_40
    rw [if_pos a]
    exact own_b (own_is hP) rfl
  · obtain ⟨x3, y3⟩ := h3.resolve_left a
    by_cases b : i4 < 0
    · refine own_eq (nar .boolean) (fun T o P hP => ?_) (own_13 hK t0 t1 x3 (own_pos b))
      show f7_40 (P T p z v c tl) o i3 i4 = (f13_0 (P T p z v c tl) o i3 (f6_0 i4)).bind _
      unfold f7_40
      rw [if_neg a, if_pos b]
      exact own_b (own_is hP) rfl
    · obtain ⟨x4, y4⟩ := h4.resolve_left b
      by_cases e : own_at z i3 < own_at z i4
      · refine own_to (fun T o P hP => ?_) (own_31 hK t0 t1 x4 x3 y4 y3 ne)
        show f7_40 (P T p z v c tl) o i3 i4 = (f16_31 (P T p z v c tl) o i4 i3).bind (fun A1 => f7_89 A1 1)
        unfold f7_40
        rw [if_neg a, if_neg b]
        refine own_b (own_is hP) ?_
        rw [own_16 hP x3 x4 ne, if_pos e]
      · refine own_to (fun T o P hP => ?_) (own_31 hK t0 t1 x3 x4 y3 y4 (Ne.symm ne))
        show f7_40 (P T p z v c tl) o i3 i4 = (f16_31 (P T p z v c tl) o i3 i4).bind (fun A1 => f7_89 A1 1)
        unfold f7_40
        rw [if_neg a, if_neg b]
        refine own_b (own_is hP) ?_
        rw [own_16 hP x3 x4 ne, if_neg e]
theorem own_7 {fn : Int32} {p z v c : own_T} {tl : Int32} (hK : own_K p v c) (t0 : 0 ≤ tl.toInt) (t1 : tl.toInt ≤ 75) {i j : Int32} (hi : i < 0 ∨ own_ix i) (hj : j < 0 ∨ own_ix j) : own_Step fn (fun A o => f7_0 A o i j) p z v c tl := by
  have r1 := own_rs hK.1 hK.2.1 hi
  have r2 := own_rs hK.1 hK.2.1 hj
  by_cases a : own_res p v i = own_res p v j
  · refine own_same hK 1 (fun T o P hP => ?_)
    show f7_0 (P T p z v c tl) o i j = _
    unfold f7_0
    refine own_b (own_is hP) ?_
    refine own_b (own_5 hP hK.1 hi) ?_
    refine own_b (own_is hP) ?_
    refine own_b (own_5 hP hK.1 hj) ?_
    refine (if_pos a).trans ?_
    unfold f7_89
    rw [nar1]
  · by_cases b : own_res p v i < 0 ∧ own_res p v j < 0
    · refine own_same hK 0 (fun T o P hP => ?_)
      show f7_0 (P T p z v c tl) o i j = _
      unfold f7_0
      refine own_b (own_is hP) ?_
      refine own_b (own_5 hP hK.1 hi) ?_
      refine own_b (own_is hP) ?_
      refine own_b (own_5 hP hK.1 hj) ?_
      refine (if_neg a).trans ?_
      refine (if_pos b.1).trans ?_
      refine (if_pos b.2).trans ?_
      unfold f7_35 f7_89
      rw [nar0]
    · refine own_to (fun T o P hP => ?_) (own_40 hK t0 t1 r1 r2 b a)
      show f7_0 (P T p z v c tl) o i j = f7_40 (P T p z v c tl) o (own_res p v i) (own_res p v j)
      unfold f7_0
      refine own_b (own_is hP) ?_
      refine own_b (own_5 hP hK.1 hi) ?_
      refine own_b (own_is hP) ?_
      refine own_b (own_5 hP hK.1 hj) ?_
      refine (if_neg a).trans ?_
      by_cases d : own_res p v i < 0
      · refine (if_pos d).trans ?_
        exact if_neg (fun q => b ⟨d, q⟩)
      · exact if_neg d
theorem own_4 {fn : Int32} {p z v c : own_T} {tl : Int32} (hK : own_K p v c) (t0 : 0 ≤ tl.toInt) (t1 : tl.toInt ≤ 75) {i : Int32} (hi : i < 0 ∨ own_ix i) : own_Step fn (fun A o => f4_0 A o i) p z v c tl := by
  have r1 := own_rs hK.1 hK.2.1 hi
  by_cases a : own_res p v i < 0
  · by_cases b : f6_0 (own_res p v i) < fn
    · refine own_same hK 1 (fun T o P hP => ?_)
      show f4_0 (P T p z v c tl) o i = _
      unfold f4_0
      refine own_b (own_is hP) ?_
      refine own_b (own_5 hP hK.1 hi) ?_
      refine (if_pos a).trans ?_
      refine own_b (own_i1 hP) ?_
      refine (if_pos b).trans ?_
      unfold f4_26 f4_54
      rw [nar1]
    · refine own_same hK 0 (fun T o P hP => ?_)
      show f4_0 (P T p z v c tl) o i = _
      unfold f4_0
      refine own_b (own_is hP) ?_
      refine own_b (own_5 hP hK.1 hi) ?_
      refine (if_pos a).trans ?_
      refine own_b (own_i1 hP) ?_
      refine (if_neg b).trans ?_
      unfold f4_26 f4_54
      rw [nar0]
  · obtain ⟨x, y⟩ := r1.resolve_left a
    by_cases b : own_at c (own_res p v i) = 0
    · refine own_one t0 t1 1 p z v (own_put c (own_res p v i) 1) ⟨hK.1, hK.2.1, own_cbp x hK.2.2 (Or.inr rfl)⟩ (own_res p v i) (-1) x (own_pa x) (own_pa x) (by rw [own_pp x, own_pa x]) (Or.inl ⟨by decide, rfl⟩) (fun T hT o P hP => ?_)
      show f4_0 (P T p z v c tl) o i = _
      unfold f4_0
      refine own_b (own_is hP) ?_
      refine own_b (own_5 hP hK.1 hi) ?_
      refine (if_neg a).trans ?_
      refine own_b (own_q5 hP) ?_
      refine own_b (own_r5 hP x) ?_
      refine (if_pos b).trans ?_
      refine own_b (own_is hP) ?_
      refine own_b (own_14 hP x hT t0 t1 (hK.2.2 _ x)) ?_
      unfold f4_46 f4_52 f4_54
      refine own_b (own_q5 hP) ?_
      rw [nar1]
      exact own_b (own_w5 hP x) rfl
    · refine own_same hK 1 (fun T o P hP => ?_)
      show f4_0 (P T p z v c tl) o i = _
      unfold f4_0
      refine own_b (own_is hP) ?_
      refine own_b (own_5 hP hK.1 hi) ?_
      refine (if_neg a).trans ?_
      refine own_b (own_q5 hP) ?_
      refine own_b (own_r5 hP x) ?_
      refine (if_neg b).trans ?_
      unfold f4_52 f4_54
      rw [nar1]
theorem own_code (s : Int32) : f3_0 s < 0 ∨ own_ix (f3_0 s) := by
  have m := c_mask s 7 3 (by decide) (by decide)
  simp only [show ((2 ^ 3 : Nat) : Int) = 8 from rfl] at m
  have e := (c_irem (s &&& 7) 6 6 (by decide)).1 (by omega)
  have d := c_isub ((s &&& 7) % 6) 3
  rw [show (3 : Int32).toInt = 3 from by decide] at d
  have r := rng32 ((s &&& 7) % 6 - 3)
  unfold f3_0 f3_9
  have h : ((s &&& 7) % 6 - 3).toInt < 0 ∨ ((s &&& 7) % 6 - 3).toInt = 0 ∨ ((s &&& 7) % 6 - 3).toInt = 1 ∨ ((s &&& 7) % 6 - 3).toInt = 2 := by omega
  rcases h with h | h | h | h
  · exact Or.inl (Int32.lt_iff_toInt_lt.mpr h)
  · exact Or.inr (Or.inl (Int32.toInt_inj.mp (by rw [h]; decide)))
  · exact Or.inr (Or.inr (Or.inl (Int32.toInt_inj.mp (by rw [h]; decide))))
  · exact Or.inr (Or.inr (Or.inr (Int32.toInt_inj.mp (by rw [h]; decide))))
theorem own_2 {fn : Int32} {p z v c : own_T} {tl : Int32} (hK : own_K p v c) (t0 : 0 ≤ tl.toInt) (t1 : tl.toInt ≤ 75) (x : Int32) : own_Step fn (fun A o => f2_0 A o x) p z v c tl := by
  by_cases a : (x &&& 1) = 0
  · refine own_eq (nar .boolean) (fun T o P hP => ?_) (own_7 hK t0 t1 (own_code (((x).toUInt32 >>> ((1 : Int32) &&& 31).toUInt32).toInt32)) (own_code (((x).toUInt32 >>> ((4 : Int32) &&& 31).toUInt32).toInt32)))
    show f2_0 (P T p z v c tl) o x = (f7_0 (P T p z v c tl) o _ _).bind _
    unfold f2_0 f2_3 f2_10
    rw [if_pos a]
    exact own_b (own_is hP) rfl
  · refine own_eq (nar .boolean) (fun T o P hP => ?_) (own_4 hK t0 t1 (own_code (((x).toUInt32 >>> ((1 : Int32) &&& 31).toUInt32).toInt32)))
    show f2_0 (P T p z v c tl) o x = (f4_0 (P T p z v c tl) o _).bind _
    unfold f2_0 f2_3 f2_10
    rw [if_neg a]
    exact own_b (own_is hP) rfl
/-! ### snap -/
def own_Read (fn : Int32) (F : AH → Nat → Option (Int32 × AH)) (p z v c : own_T) (tl : Int32) : Prop := ∃ n : Int32, ∀ (T : List Value) (o : Nat) (P : own_Q), own_Lens o fn P → F (P T p z v c tl) o = some (n, P T p z v c tl)
theorem own_12 {fn : Int32} {p z v c : own_T} {tl : Int32} (hK : own_K p v c) {i : Int32} (hi : own_ix i) : own_Read fn (fun A o => f12_0 A o i) p z v c tl := by
  have r1 := own_rs hK.1 hK.2.1 (Or.inr hi)
  by_cases a : own_res p v i < 0
  · by_cases b : f15_0 (own_res p v i) < fn
    · refine ⟨1, fun T o P hP => ?_⟩
      show f12_0 (P T p z v c tl) o i = _
      unfold f12_0
      refine own_b (own_is hP) ?_
      refine own_b (own_5 hP hK.1 (Or.inr hi)) ?_
      refine (if_pos a).trans ?_
      refine own_b (own_i1 hP) ?_
      refine (if_pos b).trans ?_
      unfold f12_35
      rw [nar1]
    · refine ⟨0, fun T o P hP => ?_⟩
      show f12_0 (P T p z v c tl) o i = _
      unfold f12_0
      refine own_b (own_is hP) ?_
      refine own_b (own_5 hP hK.1 (Or.inr hi)) ?_
      refine (if_pos a).trans ?_
      refine own_b (own_i1 hP) ?_
      refine (if_neg b).trans ?_
      unfold f12_35
      rw [nar0]
  · obtain ⟨x, y⟩ := r1.resolve_left a
    refine ⟨nar .boolean (own_at c (own_res p v i)), fun T o P hP => ?_⟩
    show f12_0 (P T p z v c tl) o i = _
    unfold f12_0
    refine own_b (own_is hP) ?_
    refine own_b (own_5 hP hK.1 (Or.inr hi)) ?_
    refine (if_neg a).trans ?_
    refine own_b (own_q5 hP) ?_
    exact own_b (own_r5 hP x) rfl
theorem own_10_67 {fn : Int32} {p z v c : own_T} {tl : Int32} (hK : own_K p v c) (s0 s1 : Int32) : own_Read fn (fun A o => f10_67 A o s0 s1) p z v c tl := by
  obtain ⟨n, hn⟩ := own_12 (fn := fn) (z := z) (tl := tl) hK (i := 2) (Or.inr (Or.inr rfl))
  by_cases a : n = 0
  · refine ⟨(s1 ||| s0) ||| 0, fun T o P hP => ?_⟩
    show f10_67 (P T p z v c tl) o s0 s1 = _
    unfold f10_67
    refine own_b (own_is hP) ?_
    refine own_b (hn T o P hP) ?_
    refine (if_pos a).trans ?_
    rfl
  · refine ⟨(s1 ||| s0) ||| 2048, fun T o P hP => ?_⟩
    show f10_67 (P T p z v c tl) o s0 s1 = _
    unfold f10_67
    refine own_b (own_is hP) ?_
    refine own_b (hn T o P hP) ?_
    refine (if_neg a).trans ?_
    rfl
theorem own_10_49 {fn : Int32} {p z v c : own_T} {tl : Int32} (hK : own_K p v c) (s0 s1 : Int32) : own_Read fn (fun A o => f10_49 A o s0 s1) p z v c tl := by
  obtain ⟨n, hn⟩ := own_12 (fn := fn) (z := z) (tl := tl) hK (i := 1) (Or.inr (Or.inl rfl))
  by_cases a : n = 0
  · obtain ⟨m, hm⟩ := own_10_67 (fn := fn) (z := z) (tl := tl) hK 0 (s1 ||| s0)
    refine ⟨m, fun T o P hP => ?_⟩
    show f10_49 (P T p z v c tl) o s0 s1 = _
    unfold f10_49
    refine own_b (own_is hP) ?_
    refine own_b (hn T o P hP) ?_
    refine (if_pos a).trans ?_
    exact hm T o P hP
  · obtain ⟨m, hm⟩ := own_10_67 (fn := fn) (z := z) (tl := tl) hK 1024 (s1 ||| s0)
    refine ⟨m, fun T o P hP => ?_⟩
    show f10_49 (P T p z v c tl) o s0 s1 = _
    unfold f10_49
    refine own_b (own_is hP) ?_
    refine own_b (hn T o P hP) ?_
    refine (if_neg a).trans ?_
    exact hm T o P hP
theorem own_10_32 {fn : Int32} {p z v c : own_T} {tl : Int32} (hK : own_K p v c) (s0 : Int32) : own_Read fn (fun A o => f10_32 A o s0) p z v c tl := by
  obtain ⟨n, hn⟩ := own_12 (fn := fn) (z := z) (tl := tl) hK (i := 0) (Or.inl rfl)
  by_cases a : n = 0
  · obtain ⟨m, hm⟩ := own_10_49 (fn := fn) (z := z) (tl := tl) hK 0 s0
    refine ⟨m, fun T o P hP => ?_⟩
    show f10_32 (P T p z v c tl) o s0 = _
    unfold f10_32
    refine own_b (own_is hP) ?_
    refine own_b (hn T o P hP) ?_
    refine (if_pos a).trans ?_
    exact hm T o P hP
  · obtain ⟨m, hm⟩ := own_10_49 (fn := fn) (z := z) (tl := tl) hK 512 s0
    refine ⟨m, fun T o P hP => ?_⟩
    show f10_32 (P T p z v c tl) o s0 = _
    unfold f10_32
    refine own_b (own_is hP) ?_
    refine own_b (hn T o P hP) ?_
    refine (if_neg a).trans ?_
    exact hm T o P hP
theorem own_snap {fn : Int32} {p z v c : own_T} {tl : Int32} (hK : own_K p v c) : own_Read fn (fun A o => f10_0 A o) p z v c tl := by
  obtain ⟨m, hm⟩ := own_10_32 (fn := fn) (z := z) (tl := tl) hK (((own_res p v 0 + 3) ||| ((own_res p v 1 + 3) <<< ((3 : Int32) &&& 31))) ||| ((own_res p v 2 + 3) <<< ((6 : Int32) &&& 31)))
  refine ⟨m, fun T o P hP => ?_⟩
  show f10_0 (P T p z v c tl) o = _
  unfold f10_0
  refine own_b (own_is hP) ?_
  refine own_b (own_5 hP hK.1 (Or.inr (Or.inl rfl))) ?_
  refine own_b (own_is hP) ?_
  refine own_b (own_5 hP hK.1 (Or.inr (Or.inr (Or.inl rfl)))) ?_
  unfold f10_19
  refine own_b (own_is hP) ?_
  refine own_b (own_5 hP hK.1 (Or.inr (Or.inr (Or.inr rfl)))) ?_
  exact hm T o P hP
/-! ### undo -/
theorem own_agree {T T' : List Value} {p z v c p' z' v' c' : own_T} {tl tl' : Int32} (R : own_R T p z v c tl T' p' z' v' c' tl') (i : Nat) (hi : i < tl.toInt.toNat) : T'[i]? = T[i]? := by
  rcases R with ⟨h, _⟩ | ⟨_, r, ch, _, h, _⟩
  · rw [h]
  · rw [h]
    unfold own_fr
    rw [List.getElem?_set_ne (by omega), List.getElem?_set_ne (by omega), List.getElem?_set_ne (by omega), List.getElem?_set_ne (by omega), List.getElem?_set_ne (by omega)]
theorem own_fr0 (T : List Value) (n : Nat) (a b c d e : Int32) (h : n + 5 ≤ T.length) : (own_fr T n a b c d e)[n]? = some (.int a) ∧ (own_fr T n a b c d e)[n + 1]? = some (.int b) ∧ (own_fr T n a b c d e)[n + 2]? = some (.int c) ∧ (own_fr T n a b c d e)[n + 3]? = some (.int d) ∧ (own_fr T n a b c d e)[n + 4]? = some (.int e) := by
  unfold own_fr
  refine ⟨?_, ?_, ?_, ?_, ?_⟩
  · rw [List.getElem?_set_ne (by omega), List.getElem?_set_ne (by omega), List.getElem?_set_ne (by omega), List.getElem?_set_ne (by omega), List.getElem?_set_self (by omega)]
  · rw [List.getElem?_set_ne (by omega), List.getElem?_set_ne (by omega), List.getElem?_set_ne (by omega), List.getElem?_set_self (by simp only [List.length_set]; omega)]
  · rw [List.getElem?_set_ne (by omega), List.getElem?_set_ne (by omega), List.getElem?_set_self (by simp only [List.length_set]; omega)]
  · rw [List.getElem?_set_ne (by omega), List.getElem?_set_self (by simp only [List.length_set]; omega)]
  · rw [List.getElem?_set_self (by simp only [List.length_set]; omega)]
theorem own_un {o : Nat} {fn : Int32} {P : own_Q} (hP : own_Lens o fn P) {T T1 T2 : List Value} {p z v c p' z' v' c' : own_T} {tl tl' m : Int32} (R : own_R T p z v c tl T1 p' z' v' c' tl') (hT : T.length = 80) (t0 : 0 ≤ tl.toInt) (t1 : tl.toInt ≤ 75) (cb : own_cb c) (hm : m.toInt ≤ tl.toInt) (ag : ∀ i, i < tl'.toInt.toNat → T2[i]? = T1[i]?) (n : Nat) :
    ∃ j, n ≤ j ∧ f9_0 (n + 1) (P T2 p' z' v' c' tl') o m = f9_0 j (P T2 p z v c tl) o m := by
  rcases R with ⟨h1, h2, h3, h4, h5, h6⟩ | ⟨h1, r, ch, hr, h2, h3, h4, h5, h6⟩
  · rw [h2, h3, h4, h5, h6]
    exact ⟨n + 1, by omega, rfl⟩
  · refine ⟨n, Nat.le_refl _, ?_⟩
    have e1 := own_ad tl 1 1 (by decide) t0 t1 (by decide) (by decide)
    have e2 := own_ad tl 2 2 (by decide) t0 t1 (by decide) (by decide)
    have e3 := own_ad tl 3 3 (by decide) t0 t1 (by decide) (by decide)
    have e4 := own_ad tl 4 4 (by decide) t0 t1 (by decide) (by decide)
    have e5 := own_ad tl 5 5 (by decide) t0 t1 (by decide) (by decide)
    subst h1
    obtain ⟨g0, g1, g2, g3, g4⟩ := own_fr0 T tl.toInt.toNat r (own_at z r) (own_at v r) (own_at c r) ch (by omega)
    rw [← h2] at g0 g1 g2 g3 g4
    rw [← ag _ (by omega)] at g0 g1 g2 g3 g4
    have n1 : (tl + 1).toInt.toNat = tl.toInt.toNat + 1 := by omega
    have n2 : (tl + 2).toInt.toNat = tl.toInt.toNat + 2 := by omega
    have n3 : (tl + 3).toInt.toNat = tl.toInt.toNat + 3 := by omega
    have n4 : (tl + 4).toInt.toNat = tl.toInt.toNat + 4 := by omega
    have k0 : ∀ p9 z9 v9 c9 : own_T, asI (h_aget (P T2 p9 z9 v9 c9 tl) 0 (o + 1) tl) = some r := fun _ _ _ _ => by rw [own_rT hP t0, g0]; rfl
    have k1 : ∀ p9 z9 v9 c9 : own_T, asI (h_aget (P T2 p9 z9 v9 c9 tl) 0 (o + 1) (tl + 1)) = some (own_at z r) := fun _ _ _ _ => by rw [own_rT hP (by omega), n1, g1]; rfl
    have k2 : ∀ p9 z9 v9 c9 : own_T, asI (h_aget (P T2 p9 z9 v9 c9 tl) 0 (o + 1) (tl + 2)) = some (own_at v r) := fun _ _ _ _ => by rw [own_rT hP (by omega), n2, g2]; rfl
    have k3 : ∀ p9 z9 v9 c9 : own_T, asI (h_aget (P T2 p9 z9 v9 c9 tl) 0 (o + 1) (tl + 3)) = some (own_at c r) := fun _ _ _ _ => by rw [own_rT hP (by omega), n3, g3]; rfl
    have k4 : ∀ p9 z9 v9 c9 : own_T, asI (h_aget (P T2 p9 z9 v9 c9 tl) 0 (o + 1) (tl + 4)) = some ch := fun _ _ _ _ => by rw [own_rT hP (by omega), n4, g4]; rfl
    have s5 : tl + 5 - 5 = tl := Int32.add_sub_cancel ..
    show g9_0 (f9_0 n) (P T2 p' z' v' c' (tl + 5)) o m = _
    unfold g9_0
    refine own_b (own_i6 hP) ?_
    refine (if_pos (Int32.lt_iff_toInt_lt.mpr (by omega))).trans ?_
    refine own_b (own_i6 hP) ?_
    rw [s5]
    refine own_b (own_s6 hP) ?_
    refine own_b (own_q0 hP) ?_
    refine own_b (own_i6 hP) ?_
    refine own_b (k0 _ _ _ _) ?_
    unfold f9_28
    refine own_b (own_q3 hP) ?_
    refine own_b (own_q0 hP) ?_
    refine own_b (own_i6 hP) ?_
    refine own_b (k1 _ _ _ _) ?_
    refine own_b (own_w3 hP hr) ?_
    rw [h3]
    refine own_b (own_q4 hP) ?_
    refine own_b (own_q0 hP) ?_
    unfold f9_54
    refine own_b (own_i6 hP) ?_
    refine own_b (k2 _ _ _ _) ?_
    refine own_b (own_w4 hP hr) ?_
    rw [h4]
    refine own_b (own_q5 hP) ?_
    refine own_b (own_q0 hP) ?_
    refine own_b (own_i6 hP) ?_
    refine own_b (k3 _ _ _ _) ?_
    have e : f9_78 (f9_0 n) (P T2 p' z v c' tl) o m (own_at c r) r (o + 5) = f9_87 (f9_0 n) (P T2 p' z v c' tl) o m (own_at c r) r (o + 5) := by
      unfold f9_78
      rcases cb r hr with q | q
      · rw [q]; exact if_neg (by decide)
      · rw [q]; exact if_pos rfl
    refine e.trans ?_
    have nb : nar .boolean (own_at c r) = own_at c r := by
      rcases cb r hr with q | q
      · rw [q, nar0]
      · rw [q, nar1]
    unfold f9_87
    rw [nb]
    refine own_b (own_w5 hP hr) ?_
    rw [h5]
    refine own_b (own_q0 hP) ?_
    refine own_b (own_i6 hP) ?_
    refine own_b (k4 _ _ _ _) ?_
    unfold f9_111
    by_cases q : ch < 0
    · refine (if_pos q).trans ?_
      rcases h6 with ⟨_, h6⟩ | ⟨h6, _⟩
      · rw [h6]
      · rcases h6 with h6 | h6 | h6 <;> (rw [h6] at q; exact absurd q (by decide))
    · refine (if_neg q).trans ?_
      rcases h6 with ⟨h6, _⟩ | ⟨h6, h7⟩
      · exact absurd h6 q
      · refine own_b (own_q2 hP) ?_
        refine own_b (own_w2 hP h6) ?_
        rw [h7]
theorem own_un0 {o : Nat} {fn : Int32} {P : own_Q} (hP : own_Lens o fn P) {T : List Value} {p z v c : own_T} {tl : Int32} (n : Nat) : f9_0 (n + 1) (P T p z v c tl) o tl = some (P T p z v c tl) := by
  show g9_0 (f9_0 n) (P T p z v c tl) o tl = _
  unfold g9_0
  refine own_b (own_i6 hP) ?_
  exact if_neg (by rw [Int32.lt_iff_toInt_lt]; omega)
/-! ### the two objects -/
theorem own_l0 (fn : Int32) (Y : AH) : own_Lens 0 fn (fun T p z v c tl => own_B 0 fn T p z v c tl ++ Y) := by
  intro T p z v c tl
  exact ⟨rfl, rfl, rfl, rfl, rfl, rfl, fun _ => rfl, fun _ => rfl, fun _ => rfl, fun _ => rfl, fun _ => rfl, fun _ => rfl⟩
theorem own_l6 (fn : Int32) (T0 : List Value) (p0 z0 v0 c0 : own_T) (tl0 : Int32) : own_Lens 6 fn (fun T p z v c tl => own_B 0 fn T0 p0 z0 v0 c0 tl0 ++ own_B 6 fn T p z v c tl) := by
  intro T p z v c tl
  exact ⟨rfl, rfl, rfl, rfl, rfl, rfl, fun _ => rfl, fun _ => rfl, fun _ => rfl, fun _ => rfl, fun _ => rfl, fun _ => rfl⟩
theorem own_l6' (fn : Int32) (a0 a1 a2 a3 a4 a5 : Nat × List Value) : own_Lens 6 fn (fun T p z v c tl => [a0, a1, a2, a3, a4, a5] ++ own_B 6 fn T p z v c tl) := by
  intro T p z v c tl
  exact ⟨rfl, rfl, rfl, rfl, rfl, rfl, fun _ => rfl, fun _ => rfl, fun _ => rfl, fun _ => rfl, fun _ => rfl, fun _ => rfl⟩
theorem own_47 {o : Nat} {fn : Int32} {P : own_Q} (hP : own_Lens o fn P) {T : List Value} {p z v c : own_T} {tl : Int32} : f1_47 8 (P T (0, 0, 0) (0, 0, 0) (0, 0, 0) c tl) o 3 0 = some (P T (0, 1, 2) (1, 1, 1) (-1, -1, -1) c tl) := by
  show g1_47 (f1_47 7) (P T (0, 0, 0) (0, 0, 0) (0, 0, 0) c tl) o 3 0 = _
  unfold g1_47
  refine (if_pos (by decide)).trans ?_
  refine own_b (own_q2 hP) ?_
  refine own_b (own_w2 hP (Or.inl rfl)) ?_
  refine own_b (own_q3 hP) ?_
  refine own_b (own_w3 hP (Or.inl rfl)) ?_
  refine own_b (own_q4 hP) ?_
  unfold f1_71
  refine own_b (own_w4 hP (Or.inl rfl)) ?_
  show g1_47 (f1_47 6) (P T (0, 0, 0) (1, 0, 0) (-1, 0, 0) c tl) o 3 1 = _
  unfold g1_47
  refine (if_pos (by decide)).trans ?_
  refine own_b (own_q2 hP) ?_
  refine own_b (own_w2 hP (Or.inr (Or.inl rfl))) ?_
  refine own_b (own_q3 hP) ?_
  refine own_b (own_w3 hP (Or.inr (Or.inl rfl))) ?_
  refine own_b (own_q4 hP) ?_
  unfold f1_71
  refine own_b (own_w4 hP (Or.inr (Or.inl rfl))) ?_
  show g1_47 (f1_47 5) (P T (0, 1, 0) (1, 1, 0) (-1, -1, 0) c tl) o 3 2 = _
  unfold g1_47
  refine (if_pos (by decide)).trans ?_
  refine own_b (own_q2 hP) ?_
  refine own_b (own_w2 hP (Or.inr (Or.inr rfl))) ?_
  refine own_b (own_q3 hP) ?_
  refine own_b (own_w3 hP (Or.inr (Or.inr rfl))) ?_
  refine own_b (own_q4 hP) ?_
  unfold f1_71
  refine own_b (own_w4 hP (Or.inr (Or.inr rfl))) ?_
  show g1_47 (f1_47 4) (P T (0, 1, 2) (1, 1, 1) (-1, -1, -1) c tl) o 3 3 = _
  unfold g1_47
  exact if_neg (by decide)
theorem own_new0 (fn : Int32) : f1_0 [(10, own_ds10)] 0 3 fn = some ([] ++ own_B 0 fn (List.replicate 80 (.int 0)) (0, 1, 2) (1, 1, 1) (-1, -1, -1) (0, 0, 0) 0) := by
  unfold f1_0
  refine own_b (show h_anew [(10, [.null, .int 0, .null, .null, .null, .null, .int 0])] 0 80 80 (.int 0) = some (1, [(10, [.null, .int 0, .null, .null, .null, .null, .int 0]), (0, List.replicate 80 (.int 0))]) from rfl) ?_
  refine own_b (show h_fset [(10, [.null, .int 0, .null, .null, .null, .null, .int 0]), (0, List.replicate 80 (.int 0))] 10 0 0 (.ref 1) = some [(10, [.ref 1, .int 0, .null, .null, .null, .null, .int 0]), (0, List.replicate 80 (.int 0))] from rfl) ?_
  refine own_b (show h_fset [(10, [.ref 1, .int 0, .null, .null, .null, .null, .int 0]), (0, List.replicate 80 (.int 0))] 10 0 1 (.int fn) = some [(10, [.ref 1, .int fn, .null, .null, .null, .null, .int 0]), (0, List.replicate 80 (.int 0))] from rfl) ?_
  refine own_b (show h_anew [(10, [.ref 1, .int fn, .null, .null, .null, .null, .int 0]), (0, List.replicate 80 (.int 0))] 0 3 3 (.int 0) = some (2, [(10, [.ref 1, .int fn, .null, .null, .null, .null, .int 0]), (0, List.replicate 80 (.int 0)), (0, List.replicate 3 (.int 0))]) from rfl) ?_
  refine own_b (show h_fset [(10, [.ref 1, .int fn, .null, .null, .null, .null, .int 0]), (0, List.replicate 80 (.int 0)), (0, List.replicate 3 (.int 0))] 10 0 2 (.ref 2) = some [(10, [.ref 1, .int fn, .ref 2, .null, .null, .null, .int 0]), (0, List.replicate 80 (.int 0)), (0, List.replicate 3 (.int 0))] from rfl) ?_
  refine own_b (show h_anew [(10, [.ref 1, .int fn, .ref 2, .null, .null, .null, .int 0]), (0, List.replicate 80 (.int 0)), (0, List.replicate 3 (.int 0))] 0 3 3 (.int 0) = some (3, [(10, [.ref 1, .int fn, .ref 2, .null, .null, .null, .int 0]), (0, List.replicate 80 (.int 0)), (0, List.replicate 3 (.int 0)), (0, List.replicate 3 (.int 0))]) from rfl) ?_
  unfold f1_28
  refine own_b (show h_fset [(10, [.ref 1, .int fn, .ref 2, .null, .null, .null, .int 0]), (0, List.replicate 80 (.int 0)), (0, List.replicate 3 (.int 0)), (0, List.replicate 3 (.int 0))] 10 0 3 (.ref 3) = some [(10, [.ref 1, .int fn, .ref 2, .ref 3, .null, .null, .int 0]), (0, List.replicate 80 (.int 0)), (0, List.replicate 3 (.int 0)), (0, List.replicate 3 (.int 0))] from rfl) ?_
  refine own_b (show h_anew [(10, [.ref 1, .int fn, .ref 2, .ref 3, .null, .null, .int 0]), (0, List.replicate 80 (.int 0)), (0, List.replicate 3 (.int 0)), (0, List.replicate 3 (.int 0))] 0 3 3 (.int 0) = some (4, [(10, [.ref 1, .int fn, .ref 2, .ref 3, .null, .null, .int 0]), (0, List.replicate 80 (.int 0)), (0, List.replicate 3 (.int 0)), (0, List.replicate 3 (.int 0)), (0, List.replicate 3 (.int 0))]) from rfl) ?_
  refine own_b (show h_fset [(10, [.ref 1, .int fn, .ref 2, .ref 3, .null, .null, .int 0]), (0, List.replicate 80 (.int 0)), (0, List.replicate 3 (.int 0)), (0, List.replicate 3 (.int 0)), (0, List.replicate 3 (.int 0))] 10 0 4 (.ref 4) = some [(10, [.ref 1, .int fn, .ref 2, .ref 3, .ref 4, .null, .int 0]), (0, List.replicate 80 (.int 0)), (0, List.replicate 3 (.int 0)), (0, List.replicate 3 (.int 0)), (0, List.replicate 3 (.int 0))] from rfl) ?_
  refine own_b (show h_anew [(10, [.ref 1, .int fn, .ref 2, .ref 3, .ref 4, .null, .int 0]), (0, List.replicate 80 (.int 0)), (0, List.replicate 3 (.int 0)), (0, List.replicate 3 (.int 0)), (0, List.replicate 3 (.int 0))] 4 3 3 (.int 0) = some (5, [(10, [.ref 1, .int fn, .ref 2, .ref 3, .ref 4, .null, .int 0]), (0, List.replicate 80 (.int 0)), (0, List.replicate 3 (.int 0)), (0, List.replicate 3 (.int 0)), (0, List.replicate 3 (.int 0)), (4, List.replicate 3 (.int 0))]) from rfl) ?_
  refine own_b (show h_fset [(10, [.ref 1, .int fn, .ref 2, .ref 3, .ref 4, .null, .int 0]), (0, List.replicate 80 (.int 0)), (0, List.replicate 3 (.int 0)), (0, List.replicate 3 (.int 0)), (0, List.replicate 3 (.int 0)), (4, List.replicate 3 (.int 0))] 10 0 5 (.ref 5) = some [(10, [.ref 1, .int fn, .ref 2, .ref 3, .ref 4, .ref 5, .int 0]), (0, List.replicate 80 (.int 0)), (0, List.replicate 3 (.int 0)), (0, List.replicate 3 (.int 0)), (0, List.replicate 3 (.int 0)), (4, List.replicate 3 (.int 0))] from rfl) ?_
  exact own_47 (own_l0 fn []) (p := (0, 0, 0)) (z := (0, 0, 0)) (v := (0, 0, 0)) (T := List.replicate 80 (.int 0)) (c := (0, 0, 0)) (tl := 0)
theorem own_new6 (fn : Int32) (a0 : Nat × List Value) (a1 : Nat × List Value) (a2 : Nat × List Value) (a3 : Nat × List Value) (a4 : Nat × List Value) (a5 : Nat × List Value) : f1_0 [a0, a1, a2, a3, a4, a5, (10, own_ds10)] 6 3 fn = some ([a0, a1, a2, a3, a4, a5] ++ own_B 6 fn (List.replicate 80 (.int 0)) (0, 1, 2) (1, 1, 1) (-1, -1, -1) (0, 0, 0) 0) := by
  unfold f1_0
  refine own_b (show h_anew [a0, a1, a2, a3, a4, a5, (10, [.null, .int 0, .null, .null, .null, .null, .int 0])] 0 80 80 (.int 0) = some (7, [a0, a1, a2, a3, a4, a5, (10, [.null, .int 0, .null, .null, .null, .null, .int 0]), (0, List.replicate 80 (.int 0))]) from rfl) ?_
  refine own_b (show h_fset [a0, a1, a2, a3, a4, a5, (10, [.null, .int 0, .null, .null, .null, .null, .int 0]), (0, List.replicate 80 (.int 0))] 10 6 0 (.ref 7) = some [a0, a1, a2, a3, a4, a5, (10, [.ref 7, .int 0, .null, .null, .null, .null, .int 0]), (0, List.replicate 80 (.int 0))] from rfl) ?_
  refine own_b (show h_fset [a0, a1, a2, a3, a4, a5, (10, [.ref 7, .int 0, .null, .null, .null, .null, .int 0]), (0, List.replicate 80 (.int 0))] 10 6 1 (.int fn) = some [a0, a1, a2, a3, a4, a5, (10, [.ref 7, .int fn, .null, .null, .null, .null, .int 0]), (0, List.replicate 80 (.int 0))] from rfl) ?_
  refine own_b (show h_anew [a0, a1, a2, a3, a4, a5, (10, [.ref 7, .int fn, .null, .null, .null, .null, .int 0]), (0, List.replicate 80 (.int 0))] 0 3 3 (.int 0) = some (8, [a0, a1, a2, a3, a4, a5, (10, [.ref 7, .int fn, .null, .null, .null, .null, .int 0]), (0, List.replicate 80 (.int 0)), (0, List.replicate 3 (.int 0))]) from rfl) ?_
  refine own_b (show h_fset [a0, a1, a2, a3, a4, a5, (10, [.ref 7, .int fn, .null, .null, .null, .null, .int 0]), (0, List.replicate 80 (.int 0)), (0, List.replicate 3 (.int 0))] 10 6 2 (.ref 8) = some [a0, a1, a2, a3, a4, a5, (10, [.ref 7, .int fn, .ref 8, .null, .null, .null, .int 0]), (0, List.replicate 80 (.int 0)), (0, List.replicate 3 (.int 0))] from rfl) ?_
  refine own_b (show h_anew [a0, a1, a2, a3, a4, a5, (10, [.ref 7, .int fn, .ref 8, .null, .null, .null, .int 0]), (0, List.replicate 80 (.int 0)), (0, List.replicate 3 (.int 0))] 0 3 3 (.int 0) = some (9, [a0, a1, a2, a3, a4, a5, (10, [.ref 7, .int fn, .ref 8, .null, .null, .null, .int 0]), (0, List.replicate 80 (.int 0)), (0, List.replicate 3 (.int 0)), (0, List.replicate 3 (.int 0))]) from rfl) ?_
  unfold f1_28
  refine own_b (show h_fset [a0, a1, a2, a3, a4, a5, (10, [.ref 7, .int fn, .ref 8, .null, .null, .null, .int 0]), (0, List.replicate 80 (.int 0)), (0, List.replicate 3 (.int 0)), (0, List.replicate 3 (.int 0))] 10 6 3 (.ref 9) = some [a0, a1, a2, a3, a4, a5, (10, [.ref 7, .int fn, .ref 8, .ref 9, .null, .null, .int 0]), (0, List.replicate 80 (.int 0)), (0, List.replicate 3 (.int 0)), (0, List.replicate 3 (.int 0))] from rfl) ?_
  refine own_b (show h_anew [a0, a1, a2, a3, a4, a5, (10, [.ref 7, .int fn, .ref 8, .ref 9, .null, .null, .int 0]), (0, List.replicate 80 (.int 0)), (0, List.replicate 3 (.int 0)), (0, List.replicate 3 (.int 0))] 0 3 3 (.int 0) = some (10, [a0, a1, a2, a3, a4, a5, (10, [.ref 7, .int fn, .ref 8, .ref 9, .null, .null, .int 0]), (0, List.replicate 80 (.int 0)), (0, List.replicate 3 (.int 0)), (0, List.replicate 3 (.int 0)), (0, List.replicate 3 (.int 0))]) from rfl) ?_
  refine own_b (show h_fset [a0, a1, a2, a3, a4, a5, (10, [.ref 7, .int fn, .ref 8, .ref 9, .null, .null, .int 0]), (0, List.replicate 80 (.int 0)), (0, List.replicate 3 (.int 0)), (0, List.replicate 3 (.int 0)), (0, List.replicate 3 (.int 0))] 10 6 4 (.ref 10) = some [a0, a1, a2, a3, a4, a5, (10, [.ref 7, .int fn, .ref 8, .ref 9, .ref 10, .null, .int 0]), (0, List.replicate 80 (.int 0)), (0, List.replicate 3 (.int 0)), (0, List.replicate 3 (.int 0)), (0, List.replicate 3 (.int 0))] from rfl) ?_
  refine own_b (show h_anew [a0, a1, a2, a3, a4, a5, (10, [.ref 7, .int fn, .ref 8, .ref 9, .ref 10, .null, .int 0]), (0, List.replicate 80 (.int 0)), (0, List.replicate 3 (.int 0)), (0, List.replicate 3 (.int 0)), (0, List.replicate 3 (.int 0))] 4 3 3 (.int 0) = some (11, [a0, a1, a2, a3, a4, a5, (10, [.ref 7, .int fn, .ref 8, .ref 9, .ref 10, .null, .int 0]), (0, List.replicate 80 (.int 0)), (0, List.replicate 3 (.int 0)), (0, List.replicate 3 (.int 0)), (0, List.replicate 3 (.int 0)), (4, List.replicate 3 (.int 0))]) from rfl) ?_
  refine own_b (show h_fset [a0, a1, a2, a3, a4, a5, (10, [.ref 7, .int fn, .ref 8, .ref 9, .ref 10, .null, .int 0]), (0, List.replicate 80 (.int 0)), (0, List.replicate 3 (.int 0)), (0, List.replicate 3 (.int 0)), (0, List.replicate 3 (.int 0)), (4, List.replicate 3 (.int 0))] 10 6 5 (.ref 11) = some [a0, a1, a2, a3, a4, a5, (10, [.ref 7, .int fn, .ref 8, .ref 9, .ref 10, .ref 11, .int 0]), (0, List.replicate 80 (.int 0)), (0, List.replicate 3 (.int 0)), (0, List.replicate 3 (.int 0)), (0, List.replicate 3 (.int 0)), (4, List.replicate 3 (.int 0))] from rfl) ?_
  exact own_47 (own_l6' fn a0 a1 a2 a3 a4 a5) (p := (0, 0, 0)) (z := (0, 0, 0)) (v := (0, 0, 0)) (T := List.replicate 80 (.int 0)) (c := (0, 0, 0)) (tl := 0)
theorem own_8 {o : Nat} {fn : Int32} {P : own_Q} (hP : own_Lens o fn P) {T : List Value} {p z v c : own_T} {tl : Int32} : f8_0 (P T p z v c tl) o = some (tl, P T p z v c tl) := by
  unfold f8_0
  exact own_b (own_i6 hP) rfl
def own_H (fn : Int32) (T : List Value) (p z v c : own_T) (tl : Int32) (T' : List Value) (p' z' v' c' : own_T) (tl' : Int32) : AH := own_B 0 fn T p z v c tl ++ own_B 6 fn T' p' z' v' c' tl'
/-- from the mark on -/
theorem own_end (fn i5 : Int32) (p z v c : own_T) (tl : Int32) (hK : own_K p v c) (t0 : 0 ≤ tl.toInt) (t1 : tl.toInt ≤ 75) (T T' : List Value) (hT : T.length = 80) (hT' : T'.length = 80) : ∃ A, f0_133 (own_H fn T p z v c tl T' p z v c tl) i5 0 6 1 = some (1, A) := by
  obtain ⟨r, p1, z1, v1, c1, tl1, hK1, _, _, g⟩ := own_2 (fn := fn) (z := z) hK t0 t1 i5
  obtain ⟨T1, _, _, g1⟩ := g T hT
  obtain ⟨T1', _, _, g1'⟩ := g T' hT'
  obtain ⟨n, hn⟩ := own_snap (fn := fn) (z := z1) (tl := tl1) hK1
  refine ⟨own_H fn T1 p1 z1 v1 c1 tl1 T1' p1 z1 v1 c1 tl1, ?_⟩
  unfold f0_133
  refine own_b (g1 0 _ (own_l0 fn (own_B 6 fn T' p z v c tl))) ?_
  refine own_b (g1' 6 _ (own_l6 fn T1 p1 z1 v1 c1 tl1)) ?_
  refine (if_pos rfl).trans ?_
  unfold f0_157
  refine (if_neg (by decide)).trans ?_
  refine (if_neg (by decide)).trans ?_
  refine own_b (hn T1 0 _ (own_l0 fn (own_B 6 fn T1' p1 z1 v1 c1 tl1))) ?_
  refine own_b (hn T1' 6 _ (own_l6 fn T1 p1 z1 v1 c1 tl1)) ?_
  refine (if_pos rfl).trans ?_
  refine own_b (own_is (own_l0 fn (own_B 6 fn T1' p1 z1 v1 c1 tl1))) ?_
  refine own_b (own_8 (own_l0 fn (own_B 6 fn T1' p1 z1 v1 c1 tl1))) ?_
  refine own_b (own_is (own_l6 fn T1 p1 z1 v1 c1 tl1)) ?_
  refine own_b (own_8 (own_l6 fn T1 p1 z1 v1 c1 tl1)) ?_
  refine (if_pos rfl).trans ?_
  unfold f0_196 f0_200
  rw [nar1]
  rfl
theorem own_57 (fn i0 i3 i4 i5 : Int32) (p z v c : own_T) (tl : Int32) (hK : own_K p v c) (t0 : 0 ≤ tl.toInt) (t1 : tl.toInt ≤ 10) (T T' : List Value) (hT : T.length = 80) (hT' : T'.length = 80) : ∃ A, f0_57 (own_H fn T p z v c tl T' p z v c tl) i0 i3 i4 i5 0 6 = some (1, A) := by
  obtain ⟨r1, p1, z1, v1, c1, tl1, hK1, a1, b1, g⟩ := own_2 (fn := fn) (z := z) hK t0 (by omega) i3
  obtain ⟨T1, l1, R1, g1⟩ := g T hT
  obtain ⟨r2, p2, z2, v2, c2, tl2, hK2, a2, b2, g'⟩ := own_2 (fn := fn) (z := z1) (tl := tl1) hK1 (by omega) (by omega) i4
  obtain ⟨T2, l2, R2, g2⟩ := g' T1 l1
  obtain ⟨r3, p3, z3, v3, c3, tl3, hK3, a3, b3, g''⟩ := own_2 (fn := fn) (z := z2) (tl := tl2) hK2 (by omega) (by omega) (((i0).toUInt32 >>> ((2 : Int32) &&& 31).toUInt32).toInt32)
  obtain ⟨T3, l3, R3, g3⟩ := g'' T2 l2
  obtain ⟨n, hn⟩ := own_snap (fn := fn) (z := z) (tl := tl) hK
  obtain ⟨A, hA⟩ := own_end fn i5 p z v c tl hK t0 (by omega) T3 T' l3 hT'
  have u : f9_0 8 (own_H fn T3 p3 z3 v3 c3 tl3 T' p z v c tl) 0 tl = some (own_H fn T3 p z v c tl T' p z v c tl) := by
    have P0 := own_l0 fn (own_B 6 fn T' p z v c tl)
    obtain ⟨j3, k3, u3⟩ := own_un P0 (m := tl) (T2 := T3) R3 l2 (by omega) (by omega) hK2.2.2 (by omega) (fun _ _ => rfl) 7
    obtain ⟨j2, k2, u2⟩ := own_un P0 (m := tl) (T2 := T3) R2 l1 (by omega) (by omega) hK1.2.2 (by omega) (fun i hi => own_agree R3 i hi) (j3 - 1)
    obtain ⟨j1, k1, u1⟩ := own_un P0 (m := tl) (T2 := T3) R1 hT (by omega) (by omega) hK.2.2 (by omega) (fun i hi => (own_agree R3 i (by omega)).trans (own_agree R2 i hi)) (j2 - 1)
    rw [show j3 - 1 + 1 = j3 from by omega] at u2
    rw [show j2 - 1 + 1 = j2 from by omega] at u1
    have u0 := own_un0 P0 (T := T3) (p := p) (z := z) (v := v) (c := c) (tl := tl) (j1 - 1)
    rw [show j1 - 1 + 1 = j1 from by omega] at u0
    exact u3.trans (u2.trans (u1.trans u0))
  refine ⟨A, ?_⟩
  unfold f0_57
  refine own_b (own_is (own_l0 fn (own_B 6 fn T' p z v c tl))) ?_
  refine own_b (own_8 (own_l0 fn (own_B 6 fn T' p z v c tl))) ?_
  refine own_b (g1 0 _ (own_l0 fn (own_B 6 fn T' p z v c tl))) ?_
  refine own_b (g2 0 _ (own_l0 fn (own_B 6 fn T' p z v c tl))) ?_
  unfold f0_84
  refine own_b (g3 0 _ (own_l0 fn (own_B 6 fn T' p z v c tl))) ?_
  refine own_b (own_is (own_l0 fn (own_B 6 fn T' p z v c tl))) ?_
  refine own_b u ?_
  refine own_b (own_is (own_l0 fn (own_B 6 fn T' p z v c tl))) ?_
  refine own_b (own_8 (own_l0 fn (own_B 6 fn T' p z v c tl))) ?_
  refine (if_pos rfl).trans ?_
  refine own_b (own_is (own_l6 fn T3 p z v c tl)) ?_
  refine own_b (own_8 (own_l6 fn T3 p z v c tl)) ?_
  refine (if_pos rfl).trans ?_
  refine own_b (hn T3 0 _ (own_l0 fn (own_B 6 fn T' p z v c tl))) ?_
  unfold f0_122
  refine own_b (hn T' 6 _ (own_l6 fn T3 p z v c tl)) ?_
  refine (if_pos rfl).trans ?_
  exact hA
theorem own_29 (fn i0 i1 i2 i3 i4 i5 : Int32) (p z v c : own_T) (hK : own_K p v c) (T : List Value) (hT : T.length = 80) : ∃ A, f0_29 (own_H fn T p z v c 0 T p z v c 0) i0 i1 i2 i3 i4 i5 0 6 = some (1, A) := by
  have q0 : (0 : Int32).toInt = 0 := by decide
  obtain ⟨r1, p1, z1, v1, c1, tl1, hK1, a1, b1, g⟩ := own_2 (fn := fn) (z := z) (tl := 0) hK (by omega) (by omega) i1
  obtain ⟨T1, l1, R1, g1⟩ := g T hT
  obtain ⟨r2, p2, z2, v2, c2, tl2, hK2, a2, b2, g'⟩ := own_2 (fn := fn) (z := z1) (tl := tl1) hK1 (by omega) (by omega) i2
  obtain ⟨T2, l2, R2, g2⟩ := g' T1 l1
  obtain ⟨A, hA⟩ := own_57 fn i0 i3 i4 i5 p2 z2 v2 c2 tl2 hK2 (by omega) (by omega) T2 T2 l2 l2
  refine ⟨A, ?_⟩
  unfold f0_29
  have s1 := g1 0 _ (own_l0 fn (own_B 6 fn T p z v c 0))
  have s2 := g2 0 _ (own_l0 fn (own_B 6 fn T p z v c 0))
  have s3 := g1 6 _ (own_l6 fn T2 p2 z2 v2 c2 tl2)
  have s4 := g2 6 _ (own_l6 fn T2 p2 z2 v2 c2 tl2)
  refine own_b s1 ?_
  refine own_b s2 ?_
  refine own_b s3 ?_
  refine own_b s4 ?_
  exact hA
theorem own_K0 : own_K (0, 1, 2) (-1, -1, -1) (0, 0, 0) := by
  refine ⟨by decide, ?_, ?_⟩
  · intro j hj
    rcases hj with rfl | rfl | rfl <;> decide
  · intro j hj
    rcases hj with rfl | rfl | rfl <;> exact Or.inl rfl
theorem own_plain (i0 i1 i2 i3 i4 i5 : Int32) : ∃ A, f0_0 [] i0 i1 i2 i3 i4 i5 = some (1, A) := by
  obtain ⟨A, hA⟩ := own_29 (i0 &&& 3) i0 i1 i2 i3 i4 i5 (0, 1, 2) (1, 1, 1) (-1, -1, -1) (0, 0, 0) own_K0 (List.replicate 80 (.int 0)) List.length_replicate
  refine ⟨A, ?_⟩
  unfold f0_0
  refine own_b (show h_onew [] 10 own_ds10 = some (0, [(10, own_ds10)]) from rfl) ?_
  refine own_b (own_new0 (i0 &&& 3)) ?_
  refine own_b (show h_onew ([] ++ own_B 0 (i0 &&& 3) (List.replicate 80 (.int 0)) (0, 1, 2) (1, 1, 1) (-1, -1, -1) (0, 0, 0) 0) 10 own_ds10 = some (6, [(10, own_F 0 (i0 &&& 3) 0), (0, List.replicate 80 (.int 0)), (0, own_L (0, 1, 2)), (0, own_L (1, 1, 1)), (0, own_L (-1, -1, -1)), (4, own_L (0, 0, 0)), (10, own_ds10)]) from rfl) ?_
  refine own_b (own_new6 (i0 &&& 3) _ _ _ _ _ _) ?_
  exact hA
set_option maxRecDepth 65536 in
set_option maxHeartbeats 4000000 in
theorem comes_1 {Post : Tables → Env → Array Value → State → Outcome → State → Prop} (hpost : ∀ tb e args s v u, (limb_1_1.after args s (.returned v) u = true ∧ limb_1_2.after args s (.returned v) u = true) → FrameEnd s (.returned v) u (Jvm.fieldLocs frame_1_writes args s ++ Jvm.arrayLocs frame_1_arrays args s ++ Jvm.staticLocs frame_1_statics s) 32 512 → Post tb e args s (.returned v) u) :
    ArmFor flags0 classFile x code maxLocals ret World_1 tables_1 room_1 Calls_1 rest_1 Pre_1 Post := by
  intro l hfl _ _ p e ha hc hk s m args below hf hA hF happ hP
  obtain ⟨hcalls, hrest, hpre⟩ := hP
  obtain ⟨-, -, -, hnamed, -, -, -, hat⟩ := (Spec.applies_iff hf).mp happ
  obtain ⟨hg, hn⟩ := and_e (Cond.before_iff.mp (show (Jvm.Cond.and given_1 narrow_1).before args s = true from hpre))
  obtain ⟨b0, hg⟩ := and_e hg
  obtain ⟨b1, hg⟩ := and_e hg
  obtain ⟨b2, hg⟩ := and_e hg
  obtain ⟨b3, hg⟩ := and_e hg
  obtain ⟨b4, hg⟩ := and_e hg
  obtain ⟨b5, hg⟩ := and_e hg
  have b6 := hg
  obtain ⟨w0, w1, w2, w3, w4, w5, rfl⟩ : ∃ w0 w1 w2 w3 w4 w5 : Value, args = #[w0, w1, w2, w3, w4, w5] := by
    have hs : args.size = 6 := by simpa [Cond.value, given_1] using b0
    obtain ⟨L⟩ := args
    match L, hs with
    | [w0, w1, w2, w3, w4, w5], _ => exact ⟨w0, w1, w2, w3, w4, w5, rfl⟩
  have hw := fun d (hd : d ∈ tables_1) => atoms_spec (ws := Jvm.Cond.code x code maxLocals ret :: tables_1) hat d (List.mem_cons_of_mem _ hd)
  obtain ⟨i0, ei0⟩ := is_v b1
  obtain rfl : w0 = (.int i0) := Option.some.inj ei0
  obtain ⟨i1, ei1⟩ := is_v b2
  obtain rfl : w1 = (.int i1) := Option.some.inj ei1
  obtain ⟨i2, ei2⟩ := is_v b3
  obtain rfl : w2 = (.int i2) := Option.some.inj ei2
  obtain ⟨i3, ei3⟩ := is_v b4
  obtain rfl : w3 = (.int i3) := Option.some.inj ei3
  obtain ⟨i4, ei4⟩ := is_v b5
  obtain rfl : w4 = (.int i4) := Option.some.inj ei4
  obtain ⟨i5, ei5⟩ := is_v b6
  obtain rfl : w5 = (.int i5) := Option.some.inj ei5
  have RA : Rep own_D s s.heap.size s.heap [] := ⟨rfl, fun i t vs e => by simp at e⟩
  obtain ⟨AE, hv⟩ := own_plain i0 i1 i2 i3 i4 i5
  obtain ⟨n, o, h1, h2, h3, v, L, rfl, ⟨rfl, N, -⟩, hq⟩ := rm0 (l := l) (n0 := s.heap.size) hw [] i0 i1 i2 i3 i4 i5 hv tables_1 s.heap RA p e ha hc hk s m _ below hf ((Spec.applies_iff_loose hf).mp happ).1 ⟨rfl, State.Warmed39.refl s, rfl⟩ trivial
  refine ⟨n, _, h1, h2, h3, hpost _ _ _ _ _ _ ⟨Cond.after_iff.mpr rfl, Cond.after_iff.mpr (eq_i res_at (Term.int_eval (1)) rfl)⟩ ⟨hq.1, hq.2.1, (hq.2.2.sift fun y hy => Or.inr (N y hy)).mono (by decide) (by decide)⟩⟩
theorem main_1_1 : Claimed_1_1 := comes_1 fun _ _ _ _ _ _ h hF => ⟨h.1, hF⟩
theorem main_1_2 : Claimed_1_2 := comes_1 fun _ _ _ _ _ _ h hF => ⟨h.2, hF⟩
end Jvm.Pilot.@@N@@
namespace Jvm.Pilot.@@N@@
open Jvm Jvm.ClassFile Sem Op Lib Jvm.Free Jvm.Stand Jvm.Pilot.@@N@@.Jvm.D
/-! MADE BY PROGRAM (witnessworld.py) out of the Statement's table words and the real class files: 11 classes; the members and pool entries that the words name. The judged class is class 1, her method 1. -/
namespace start1
open Jvm.ClassFile
def u (s : String) : CpInfo := .utf8 (stringToUtf16 s)
/-- a pool by its gaps: so many unusable entries, then the entry; so many at the end -/
def gap : Nat → List CpInfo → List CpInfo
  | 0, r => r
  | n + 1, r => .unusable :: gap n r
def poolList (es : List (Nat × CpInfo)) (last : Nat) : List CpInfo := es.foldr (fun e r => gap e.1 (e.2 :: r)) (gap last [])
def pool (es : List (Nat × CpInfo)) (last : Nat) : Array CpInfo := ⟨poolList es last⟩
def fileOf (pool : Array CpInfo) (this : Nat) (attrs : Array Attribute := #[]) (ms : Array MethodInfo := #[]) (fl : Nat := 33) (sup : Nat := 0) (ifs : Array Nat := #[]) (fds : Array FieldInfo := #[]) : ClassFile where
  minorVersion := 0
  majorVersion := 65
  constantPool := pool
  accessFlags := fl
  thisClass := this
  superClass := sup
  interfaces := ifs
  fields := fds
  methods := ms
  attributes := attrs
def plain (name : String) (sup : Option ClassId) : Class where
  name := name
  kind := .ordinary
  loader := none
  accessFlags := 33
  super := sup
  interfaces := #[]
  cf := none
  fields := #[]
  methods := #[]
  instanceTypes := #[]
  staticTypes := #[]
  resolved := #[]
  callSites := []
  init := .initialized
  statics := none
  mirror := none

def pool0 : Array CpInfo := pool [(5, u "<init>"), (0, u "()V"), (1, .class_ 10), (1, u "java/lang/Object")] 113

def k0c0 : Code := { maxStack := 0, maxLocals := 1, code := object_method_1_code, exceptionTable := #[], attributes := #[] }
def k0m0 : Method := { name := "<init>", desc := "()V", sig := { parameters := [], returnType := none }, accessFlags := 1, code := some k0c0 }
/-- java/lang/Object -/
def k0 : Class := { plain "java/lang/Object" none with
  accessFlags := 33
  interfaces := #[]
  cf := some (fileOf pool0 8 #[] #[{ accessFlags := 1, nameIndex := 5, descriptorIndex := 6, attributes := #[] }] 33 0 #[] #[])
  fields := #[]
  methods := #[k0m0]
  instanceTypes := #[]
  staticTypes := #[]
  resolved := Array.replicate 124 none
  statics := none }

def pool1 : Array CpInfo := pool [(2, .class_ 4), (1, u "java/lang/Object"), (0, u "<init>"), (0, u "()V"), (0, .class_ 8), (0, u "com/example/thabiti/thabiti/core/Bindings"), (0, .methodref 7 10), (0, .nameAndType 5 11), (0, u "(II)V"), (0, .methodref 13 14), (0, .class_ 15), (0, .nameAndType 16 17), (0, u "com/example/thabiti/thabiti/core/BindingsUndoPinLaw"), (0, u "step"), (0, u "(Lcom/example/thabiti/thabiti/core/Bindings;I)Z"), (0, .methodref 7 19), (0, .nameAndType 20 21), (0, u "mark"), (0, u "()I"), (0, .methodref 7 23), (0, .nameAndType 24 25), (0, u "undo"), (0, u "(I)V"), (0, .methodref 13 27), (0, .nameAndType 28 29), (0, u "snap"), (0, u "(Lcom/example/thabiti/thabiti/core/Bindings;)I"), (0, .methodref 13 31), (0, .nameAndType 32 33), (0, u "code"), (0, u "(I)I"), (0, .methodref 7 35), (0, .nameAndType 36 37), (0, u "unify"), (0, u "(II)Z"), (0, .methodref 7 39), (0, .nameAndType 40 41), (0, u "requireConstant"), (0, u "(I)Z"), (0, .methodref 7 43), (0, .nameAndType 44 33), (0, u "resolve"), (0, .methodref 7 46), (0, .nameAndType 47 41), (0, u "isConstant"), (2, u "law"), (0, u "(IIIIII)Z")] 3

def k1m0 : Method := { name := "<init>", desc := "()V", sig := { parameters := [], returnType := none }, accessFlags := 1, code := none }
def k1c1 : Code := { maxStack := 4, maxLocals := 12, code := code, exceptionTable := #[], attributes := #[] }
def k1m1 : Method := { name := "law", desc := "(IIIIII)Z", sig := { parameters := [.int, .int, .int, .int, .int, .int], returnType := some .boolean }, accessFlags := 9, code := some k1c1 }
def k1c2 : Code := { maxStack := 2, maxLocals := 1, code := method_3_code, exceptionTable := #[], attributes := #[] }
def k1m2 : Method := { name := "code", desc := "(I)I", sig := { parameters := [.int], returnType := some .int }, accessFlags := 10, code := some k1c2 }
def k1c3 : Code := { maxStack := 3, maxLocals := 4, code := method_4_code, exceptionTable := #[], attributes := #[] }
def k1m3 : Method := { name := "step", desc := "(Lcom/example/thabiti/thabiti/core/Bindings;I)Z", sig := { parameters := [(.object "com/example/thabiti/thabiti/core/Bindings"), .int], returnType := some .boolean }, accessFlags := 10, code := some k1c3 }
def k1c4 : Code := { maxStack := 3, maxLocals := 2, code := method_5_code, exceptionTable := #[], attributes := #[] }
def k1m4 : Method := { name := "snap", desc := "(Lcom/example/thabiti/thabiti/core/Bindings;)I", sig := { parameters := [(.object "com/example/thabiti/thabiti/core/Bindings")], returnType := some .int }, accessFlags := 10, code := some k1c4 }
/-- com/example/thabiti/thabiti/core/BindingsUndoPinLaw -/
def k1 : Class := { plain "com/example/thabiti/thabiti/core/BindingsUndoPinLaw" (some 0) with
  accessFlags := 49
  interfaces := #[]
  cf := some (fileOf pool1 13 #[] #[{ accessFlags := 1, nameIndex := 5, descriptorIndex := 6, attributes := #[] }, { accessFlags := 9, nameIndex := 50, descriptorIndex := 51, attributes := #[] }, { accessFlags := 10, nameIndex := 32, descriptorIndex := 33, attributes := #[] }, { accessFlags := 10, nameIndex := 16, descriptorIndex := 17, attributes := #[] }, { accessFlags := 10, nameIndex := 28, descriptorIndex := 29, attributes := #[] }] 49 2 #[] #[])
  fields := #[]
  methods := #[k1m0, k1m1, k1m2, k1m3, k1m4]
  instanceTypes := #[]
  staticTypes := #[]
  resolved := Array.replicate 55 none
  statics := none }

def pool2 : Array CpInfo := pool [(1, .methodref 2 3), (0, .class_ 4), (0, .nameAndType 5 6), (0, u "java/lang/Object"), (0, u "<init>"), (0, u "()V"), (0, .class_ 8), (0, u "com/example/thabiti/thabiti/core/Bindings"), (0, .fieldref 7 10), (0, .nameAndType 11 12), (0, u "trail"), (0, u "[I"), (0, .fieldref 7 14), (0, .nameAndType 15 16), (0, u "firstNull"), (0, u "I"), (0, .fieldref 7 18), (0, .nameAndType 19 12), (0, u "parent"), (0, .fieldref 7 21), (0, .nameAndType 22 12), (0, u "size"), (0, .fieldref 7 24), (0, .nameAndType 25 12), (0, u "value"), (0, .fieldref 7 27), (0, .nameAndType 28 29), (0, u "constant"), (0, u "[Z"), (0, .fieldref 7 31), (0, .nameAndType 32 16), (0, u "trailLength"), (0, .methodref 7 34), (0, .nameAndType 35 36), (0, u "find"), (0, u "(I)I"), (0, .methodref 7 38), (0, .nameAndType 39 36), (0, u "valueCode"), (0, .methodref 7 41), (0, .nameAndType 42 36), (0, u "resolve"), (0, .methodref 7 44), (0, .nameAndType 25 36), (0, .methodref 7 46), (0, .nameAndType 47 48), (0, u "bind"), (0, u "(II)Z"), (0, .methodref 7 50), (0, .nameAndType 51 52), (0, u "join"), (0, u "(II)V"), (0, .methodref 7 54), (0, .nameAndType 55 52), (0, u "record"), (6, u "NO_VALUE"), (2, u "STEP"), (4, u "mark"), (0, u "()I"), (0, u "undo"), (0, u "(I)V"), (2, u "(I)Z"), (0, u "isConstant"), (1, u "unify"), (0, u "requireConstant")] 3

def k2c0 : Code := { maxStack := 3, maxLocals := 4, code := prog_8_method_1_code, exceptionTable := #[], attributes := #[] }
def k2m0 : Method := { name := "<init>", desc := "(II)V", sig := { parameters := [.int, .int], returnType := none }, accessFlags := 0, code := some k2c0 }
def k2c1 : Code := { maxStack := 2, maxLocals := 1, code := prog_8_method_2_code, exceptionTable := #[], attributes := #[] }
def k2m1 : Method := { name := "valueCode", desc := "(I)I", sig := { parameters := [.int], returnType := some .int }, accessFlags := 8, code := some k2c1 }
def k2c2 : Code := { maxStack := 2, maxLocals := 1, code := prog_8_method_3_code, exceptionTable := #[], attributes := #[] }
def k2m2 : Method := { name := "value", desc := "(I)I", sig := { parameters := [.int], returnType := some .int }, accessFlags := 8, code := some k2c2 }
def k2c3 : Code := { maxStack := 1, maxLocals := 1, code := prog_8_method_4_code, exceptionTable := #[], attributes := #[] }
def k2m3 : Method := { name := "mark", desc := "()I", sig := { parameters := [], returnType := some .int }, accessFlags := 0, code := some k2c3 }
def k2c4 : Code := { maxStack := 5, maxLocals := 4, code := prog_8_method_5_code, exceptionTable := #[], attributes := #[] }
def k2m4 : Method := { name := "undo", desc := "(I)V", sig := { parameters := [.int], returnType := none }, accessFlags := 0, code := some k2c4 }
def k2c5 : Code := { maxStack := 2, maxLocals := 4, code := prog_8_method_6_code, exceptionTable := #[], attributes := #[] }
def k2m5 : Method := { name := "resolve", desc := "(I)I", sig := { parameters := [.int], returnType := some .int }, accessFlags := 0, code := some k2c5 }
def k2c6 : Code := { maxStack := 2, maxLocals := 3, code := prog_8_method_8_code, exceptionTable := #[], attributes := #[] }
def k2m6 : Method := { name := "isConstant", desc := "(I)Z", sig := { parameters := [.int], returnType := some .boolean }, accessFlags := 0, code := some k2c6 }
def k2c7 : Code := { maxStack := 3, maxLocals := 6, code := prog_8_method_10_code, exceptionTable := #[], attributes := #[] }
def k2m7 : Method := { name := "unify", desc := "(II)Z", sig := { parameters := [.int, .int], returnType := some .boolean }, accessFlags := 0, code := some k2c7 }
def k2c8 : Code := { maxStack := 3, maxLocals := 4, code := prog_8_method_11_code, exceptionTable := #[], attributes := #[] }
def k2m8 : Method := { name := "requireConstant", desc := "(I)Z", sig := { parameters := [.int], returnType := some .boolean }, accessFlags := 0, code := some k2c8 }
def k2c9 : Code := { maxStack := 2, maxLocals := 3, code := prog_8_method_12_code, exceptionTable := #[], attributes := #[] }
def k2m9 : Method := { name := "find", desc := "(I)I", sig := { parameters := [.int], returnType := some .int }, accessFlags := 2, code := some k2c9 }
def k2c10 : Code := { maxStack := 3, maxLocals := 3, code := prog_8_method_13_code, exceptionTable := #[], attributes := #[] }
def k2m10 : Method := { name := "bind", desc := "(II)Z", sig := { parameters := [.int, .int], returnType := some .boolean }, accessFlags := 2, code := some k2c10 }
def k2c11 : Code := { maxStack := 5, maxLocals := 5, code := prog_8_method_14_code, exceptionTable := #[], attributes := #[] }
def k2m11 : Method := { name := "join", desc := "(II)V", sig := { parameters := [.int, .int], returnType := none }, accessFlags := 2, code := some k2c11 }
def k2c12 : Code := { maxStack := 4, maxLocals := 3, code := prog_8_method_15_code, exceptionTable := #[], attributes := #[] }
def k2m12 : Method := { name := "record", desc := "(II)V", sig := { parameters := [.int, .int], returnType := none }, accessFlags := 2, code := some k2c12 }
/-- com/example/thabiti/thabiti/core/Bindings -/
def k2 : Class := { plain "com/example/thabiti/thabiti/core/Bindings" (some 0) with
  accessFlags := 32
  interfaces := #[]
  cf := some (fileOf pool2 7 #[] #[{ accessFlags := 0, nameIndex := 5, descriptorIndex := 52, attributes := #[] }, { accessFlags := 8, nameIndex := 39, descriptorIndex := 36, attributes := #[] }, { accessFlags := 8, nameIndex := 25, descriptorIndex := 36, attributes := #[] }, { accessFlags := 0, nameIndex := 70, descriptorIndex := 71, attributes := #[] }, { accessFlags := 0, nameIndex := 72, descriptorIndex := 73, attributes := #[] }, { accessFlags := 0, nameIndex := 42, descriptorIndex := 36, attributes := #[] }, { accessFlags := 0, nameIndex := 77, descriptorIndex := 76, attributes := #[] }, { accessFlags := 0, nameIndex := 79, descriptorIndex := 48, attributes := #[] }, { accessFlags := 0, nameIndex := 80, descriptorIndex := 76, attributes := #[] }, { accessFlags := 2, nameIndex := 35, descriptorIndex := 36, attributes := #[] }, { accessFlags := 2, nameIndex := 47, descriptorIndex := 48, attributes := #[] }, { accessFlags := 2, nameIndex := 51, descriptorIndex := 52, attributes := #[] }, { accessFlags := 2, nameIndex := 55, descriptorIndex := 52, attributes := #[] }] 32 2 #[] #[{ accessFlags := 26, nameIndex := 62, descriptorIndex := 16, attributes := #[] }, { accessFlags := 26, nameIndex := 65, descriptorIndex := 16, attributes := #[] }, { accessFlags := 18, nameIndex := 15, descriptorIndex := 16, attributes := #[] }, { accessFlags := 18, nameIndex := 19, descriptorIndex := 12, attributes := #[] }, { accessFlags := 18, nameIndex := 22, descriptorIndex := 12, attributes := #[] }, { accessFlags := 18, nameIndex := 25, descriptorIndex := 12, attributes := #[] }, { accessFlags := 18, nameIndex := 28, descriptorIndex := 29, attributes := #[] }, { accessFlags := 2, nameIndex := 11, descriptorIndex := 12, attributes := #[] }, { accessFlags := 2, nameIndex := 32, descriptorIndex := 16, attributes := #[] }])
  fields := #[{ name := "NO_VALUE", type := .int, accessFlags := 26, slot := 0, constantValue := 0 }, { name := "STEP", type := .int, accessFlags := 26, slot := 1, constantValue := 0 }, { name := "firstNull", type := .int, accessFlags := 18, slot := 0, constantValue := 0 }, { name := "parent", type := (.array .int), accessFlags := 18, slot := 1, constantValue := 0 }, { name := "size", type := (.array .int), accessFlags := 18, slot := 2, constantValue := 0 }, { name := "value", type := (.array .int), accessFlags := 18, slot := 3, constantValue := 0 }, { name := "constant", type := (.array .boolean), accessFlags := 18, slot := 4, constantValue := 0 }, { name := "trail", type := (.array .int), accessFlags := 2, slot := 5, constantValue := 0 }, { name := "trailLength", type := .int, accessFlags := 2, slot := 6, constantValue := 0 }]
  methods := #[k2m0, k2m1, k2m2, k2m3, k2m4, k2m5, k2m6, k2m7, k2m8, k2m9, k2m10, k2m11, k2m12]
  instanceTypes := #[.int, (.array .int), (.array .int), (.array .int), (.array .boolean), (.array .int), .int]
  staticTypes := #[.int, .int]
  resolved := Array.replicate 84 none
  statics := none }

def pool3 : Array CpInfo := pool [(1, u "java/lang/Cloneable"), (0, .class_ 1), (0, u "java/lang/Object"), (0, .class_ 3)] 3

/-- java/lang/Cloneable -/
def k3 : Class := { plain "java/lang/Cloneable" (some 0) with
  accessFlags := 1537
  interfaces := #[]
  cf := some (fileOf pool3 2 #[] #[] 1537 4 #[] #[])
  fields := #[]
  methods := #[]
  instanceTypes := #[]
  staticTypes := #[]
  resolved := Array.replicate 8 none
  statics := none }

def pool4 : Array CpInfo := pool [(1, u "java/io/Serializable"), (0, .class_ 1), (0, u "java/lang/Object"), (0, .class_ 3)] 3

/-- java/io/Serializable -/
def k4 : Class := { plain "java/io/Serializable" (some 0) with
  accessFlags := 1537
  interfaces := #[]
  cf := some (fileOf pool4 2 #[] #[] 1537 4 #[] #[])
  fields := #[]
  methods := #[]
  instanceTypes := #[]
  staticTypes := #[]
  resolved := Array.replicate 8 none
  statics := none }

/-- the primitive boolean -/
def k5 : Class := { plain "boolean" none with kind := .primitive 'Z', accessFlags := 0x411 }
/-- [Z -/
def k6 : Class := { plain "[Z" (some 0) with kind := .array 5 .boolean, interfaces := #[3, 4], accessFlags := 1041 }

/-- the primitive byte -/
def k7 : Class := { plain "byte" none with kind := .primitive 'B', accessFlags := 0x411 }
/-- [B -/
def k8 : Class := { plain "[B" (some 0) with kind := .array 7 .byte, interfaces := #[3, 4], accessFlags := 1041 }

/-- the primitive int -/
def k9 : Class := { plain "int" none with kind := .primitive 'I', accessFlags := 0x411 }
/-- [I -/
def k10 : Class := { plain "[I" (some 0) with kind := .array 9 .int, interfaces := #[3, 4], accessFlags := 1041 }

def heap : Heap := #[]
def classes : Array Class := #[k0, k1, k2, k3, k4, k5, k6, k7, k8, k9, k10]
def interned : List (Array UInt16 × Addr) := []
def slotsUsed : Nat := 0
def theMethod : MethodId := ⟨1, 1⟩
def args0 : Array Value := #[.int 5, .int 5, .int 5, .int 5, .int 5, .int 5]
def aboutOver (below : List Frame) : State where
  vm := { classes := classes, interned := interned.toArray }
  heap := heap
  slotsUsed := slotsUsed
  threads := #[{ frames := .invoking theMethod args0 :: below }]
def below0 : List Frame := [.native { method := ⟨0, 0⟩, args := #[] }]
def about1 : State := aboutOver below0
def p0 : Program := .bare "" "" ""
def e0 : Env := launch0.env 0 0 0
theorem w_frames : about1.frames = Frame.invoking theMethod args0 :: below0 := rfl
set_option maxRecDepth 65536 in
theorem w_args : argsFit about1.vm theMethod args0 = true := by decide +kernel
set_option maxRecDepth 65536 in
theorem w_heap : heapFits about1 = true := by decide +kernel
set_option maxRecDepth 65536 in
theorem w_runnable : about1.curStatus? = some .runnable := by decide +kernel
set_option maxRecDepth 65536 in
theorem w_alone : about1.alone = true := by decide +kernel
set_option maxRecDepth 65536 in
theorem w_named : about1.methodNamed? x = some theMethod := by decide +kernel
set_option maxRecDepth 65536 in
theorem w_hears : about1.hears theMethod below0 = true := by decide +kernel
set_option maxRecDepth 65536 in
theorem w_ripe : about1.ripe theMethod args0 below0 = true := by decide +kernel
theorem w_running : about1.status = .running := rfl
set_option maxRecDepth 65536 in
theorem w_room : about1.hasRoom e0.platform room_1 = true :=
  launch0.hasRoom_least _ room_1 (by decide +kernel) (by decide +kernel) (by decide +kernel) (by decide +kernel) (by decide +kernel) (by decide +kernel)
theorem allAtoms_all (ts : List Jvm.Cond) (a : Array Jvm.Value) (st : Jvm.State) : (allAtoms ts).before a st = ts.all (fun c => c.before a st) := by
  induction ts with
  | nil => rfl
  | cons c t ih =>
    show (Jvm.Cond.and c (allAtoms t)).before a st = _
    rw [Jvm.Cond.before_and, ih, List.all_cons]
def words1 : List Jvm.Cond := Jvm.Cond.code x code maxLocals ret :: tables_1
/-- a 'code' word, met by the world's own term for the bytes: nothing is compared byte by byte -/
theorem code_word {y : MethodName} {bytes : ByteArray} {mx : Nat} {rt : Option FieldType} {a : Array Value} {s : State} {m : MethodId} {meth : Method} {c : Code} (h1 : s.methodNamed? y = some m) (h2 : s.vm.method? m = some meth) (h3 : meth.code = some c) (h4 : c.code = bytes)
    (h5 : (c.maxLocals == mx && c.exceptionTable.isEmpty && decide (c.maxStack ≤ mostOperands) && decide (meth.sig.returnType = rt) && !meth.locks && decide (parseMethodDescriptor y.desc = some meth.sig)) = true) : (Jvm.Cond.code y bytes mx rt).before a s = true := by
  simp only [Bool.and_eq_true, beq_iff_eq, Bool.not_eq_true', decide_eq_true_eq] at h5
  obtain ⟨⟨⟨⟨⟨g1, g2⟩, g3⟩, g4⟩, g5⟩, g6⟩ := h5
  simp [Cond.before, Cond.holds, Cond.value, h1, h2, h3, h4, g1, g2, g3, g4, g5, g6]
def isCode : Jvm.Cond → Bool
  | .code _ _ _ _ => true
  | _ => false
theorem all_split {L : List Jvm.Cond} {P : Jvm.Cond → Bool} (h1 : L.all (fun c => isCode c || P c) = true) (h2 : ∀ c ∈ L.filter isCode, P c = true) : L.all P = true := by
  refine List.all_eq_true.mpr fun c hc => ?_
  have h := List.all_eq_true.mp h1 c hc
  rcases Bool.eq_false_or_eq_true (isCode c) with hi | hi
  · exact h2 c (List.mem_filter.mpr ⟨hc, hi⟩)
  · simpa [hi] using h
set_option maxRecDepth 65536 in
theorem w_c0 : (Jvm.Cond.code x code maxLocals ret).before args0 about1 = true := code_word (m := ⟨1, 1⟩) (meth := k1m1) (c := k1c1) (by decide +kernel) rfl rfl rfl (by decide +kernel)
set_option maxRecDepth 65536 in
theorem w_c1 : (Jvm.Cond.code ({ cls := "com/example/thabiti/thabiti/core/Bindings", name := "<init>", desc := "(II)V" } : Jvm.MethodName) prog_8_method_1_code (4 : Nat) (Option.none : Option Jvm.ClassFile.FieldType)).before args0 about1 = true := code_word (m := ⟨2, 0⟩) (meth := k2m0) (c := k2c0) (by decide +kernel) rfl rfl rfl (by decide +kernel)
set_option maxRecDepth 65536 in
theorem w_c2 : (Jvm.Cond.code ({ cls := "java/lang/Object", name := "<init>", desc := "()V" } : Jvm.MethodName) object_method_1_code (1 : Nat) (Option.none : Option Jvm.ClassFile.FieldType)).before args0 about1 = true := code_word (m := ⟨0, 0⟩) (meth := k0m0) (c := k0c0) (by decide +kernel) rfl rfl rfl (by decide +kernel)
set_option maxRecDepth 65536 in
theorem w_c3 : (Jvm.Cond.code ({ cls := "com/example/thabiti/thabiti/core/BindingsUndoPinLaw", name := "step", desc := "(Lcom/example/thabiti/thabiti/core/Bindings;I)Z" } : Jvm.MethodName) method_4_code (4 : Nat) (Option.some Jvm.ClassFile.FieldType.boolean)).before args0 about1 = true := code_word (m := ⟨1, 3⟩) (meth := k1m3) (c := k1c3) (by decide +kernel) rfl rfl rfl (by decide +kernel)
set_option maxRecDepth 65536 in
theorem w_c4 : (Jvm.Cond.code ({ cls := "com/example/thabiti/thabiti/core/BindingsUndoPinLaw", name := "code", desc := "(I)I" } : Jvm.MethodName) method_3_code (1 : Nat) (Option.some Jvm.ClassFile.FieldType.int)).before args0 about1 = true := code_word (m := ⟨1, 2⟩) (meth := k1m2) (c := k1c2) (by decide +kernel) rfl rfl rfl (by decide +kernel)
set_option maxRecDepth 65536 in
theorem w_c5 : (Jvm.Cond.code ({ cls := "com/example/thabiti/thabiti/core/Bindings", name := "requireConstant", desc := "(I)Z" } : Jvm.MethodName) prog_8_method_11_code (4 : Nat) (Option.some Jvm.ClassFile.FieldType.boolean)).before args0 about1 = true := code_word (m := ⟨2, 8⟩) (meth := k2m8) (c := k2c8) (by decide +kernel) rfl rfl rfl (by decide +kernel)
set_option maxRecDepth 65536 in
theorem w_c6 : (Jvm.Cond.code ({ cls := "com/example/thabiti/thabiti/core/Bindings", name := "resolve", desc := "(I)I" } : Jvm.MethodName) prog_8_method_6_code (4 : Nat) (Option.some Jvm.ClassFile.FieldType.int)).before args0 about1 = true := code_word (m := ⟨2, 5⟩) (meth := k2m5) (c := k2c5) (by decide +kernel) rfl rfl rfl (by decide +kernel)
set_option maxRecDepth 65536 in
theorem w_c7 : (Jvm.Cond.code ({ cls := "com/example/thabiti/thabiti/core/Bindings", name := "valueCode", desc := "(I)I" } : Jvm.MethodName) prog_8_method_2_code (1 : Nat) (Option.some Jvm.ClassFile.FieldType.int)).before args0 about1 = true := code_word (m := ⟨2, 1⟩) (meth := k2m1) (c := k2c1) (by decide +kernel) rfl rfl rfl (by decide +kernel)
set_option maxRecDepth 65536 in
theorem w_c8 : (Jvm.Cond.code ({ cls := "com/example/thabiti/thabiti/core/Bindings", name := "unify", desc := "(II)Z" } : Jvm.MethodName) prog_8_method_10_code (6 : Nat) (Option.some Jvm.ClassFile.FieldType.boolean)).before args0 about1 = true := code_word (m := ⟨2, 7⟩) (meth := k2m7) (c := k2c7) (by decide +kernel) rfl rfl rfl (by decide +kernel)
set_option maxRecDepth 65536 in
theorem w_c9 : (Jvm.Cond.code ({ cls := "com/example/thabiti/thabiti/core/Bindings", name := "mark", desc := "()I" } : Jvm.MethodName) prog_8_method_4_code (1 : Nat) (Option.some Jvm.ClassFile.FieldType.int)).before args0 about1 = true := code_word (m := ⟨2, 3⟩) (meth := k2m3) (c := k2c3) (by decide +kernel) rfl rfl rfl (by decide +kernel)
set_option maxRecDepth 65536 in
theorem w_c10 : (Jvm.Cond.code ({ cls := "com/example/thabiti/thabiti/core/Bindings", name := "undo", desc := "(I)V" } : Jvm.MethodName) prog_8_method_5_code (4 : Nat) (Option.none : Option Jvm.ClassFile.FieldType)).before args0 about1 = true := code_word (m := ⟨2, 4⟩) (meth := k2m4) (c := k2c4) (by decide +kernel) rfl rfl rfl (by decide +kernel)
set_option maxRecDepth 65536 in
theorem w_c11 : (Jvm.Cond.code ({ cls := "com/example/thabiti/thabiti/core/BindingsUndoPinLaw", name := "snap", desc := "(Lcom/example/thabiti/thabiti/core/Bindings;)I" } : Jvm.MethodName) method_5_code (2 : Nat) (Option.some Jvm.ClassFile.FieldType.int)).before args0 about1 = true := code_word (m := ⟨1, 4⟩) (meth := k1m4) (c := k1c4) (by decide +kernel) rfl rfl rfl (by decide +kernel)
set_option maxRecDepth 65536 in
theorem w_c12 : (Jvm.Cond.code ({ cls := "com/example/thabiti/thabiti/core/Bindings", name := "find", desc := "(I)I" } : Jvm.MethodName) prog_8_method_12_code (3 : Nat) (Option.some Jvm.ClassFile.FieldType.int)).before args0 about1 = true := code_word (m := ⟨2, 9⟩) (meth := k2m9) (c := k2c9) (by decide +kernel) rfl rfl rfl (by decide +kernel)
set_option maxRecDepth 65536 in
theorem w_c13 : (Jvm.Cond.code ({ cls := "com/example/thabiti/thabiti/core/Bindings", name := "isConstant", desc := "(I)Z" } : Jvm.MethodName) prog_8_method_8_code (3 : Nat) (Option.some Jvm.ClassFile.FieldType.boolean)).before args0 about1 = true := code_word (m := ⟨2, 6⟩) (meth := k2m6) (c := k2c6) (by decide +kernel) rfl rfl rfl (by decide +kernel)
set_option maxRecDepth 65536 in
theorem w_c14 : (Jvm.Cond.code ({ cls := "com/example/thabiti/thabiti/core/Bindings", name := "bind", desc := "(II)Z" } : Jvm.MethodName) prog_8_method_13_code (3 : Nat) (Option.some Jvm.ClassFile.FieldType.boolean)).before args0 about1 = true := code_word (m := ⟨2, 10⟩) (meth := k2m10) (c := k2c10) (by decide +kernel) rfl rfl rfl (by decide +kernel)
set_option maxRecDepth 65536 in
theorem w_c15 : (Jvm.Cond.code ({ cls := "com/example/thabiti/thabiti/core/Bindings", name := "record", desc := "(II)V" } : Jvm.MethodName) prog_8_method_15_code (3 : Nat) (Option.none : Option Jvm.ClassFile.FieldType)).before args0 about1 = true := code_word (m := ⟨2, 12⟩) (meth := k2m12) (c := k2c12) (by decide +kernel) rfl rfl rfl (by decide +kernel)
set_option maxRecDepth 65536 in
theorem w_c16 : (Jvm.Cond.code ({ cls := "com/example/thabiti/thabiti/core/Bindings", name := "value", desc := "(I)I" } : Jvm.MethodName) prog_8_method_3_code (1 : Nat) (Option.some Jvm.ClassFile.FieldType.int)).before args0 about1 = true := code_word (m := ⟨2, 2⟩) (meth := k2m2) (c := k2c2) (by decide +kernel) rfl rfl rfl (by decide +kernel)
set_option maxRecDepth 65536 in
theorem w_c17 : (Jvm.Cond.code ({ cls := "com/example/thabiti/thabiti/core/Bindings", name := "join", desc := "(II)V" } : Jvm.MethodName) prog_8_method_14_code (5 : Nat) (Option.none : Option Jvm.ClassFile.FieldType)).before args0 about1 = true := code_word (m := ⟨2, 11⟩) (meth := k2m11) (c := k2c11) (by decide +kernel) rfl rfl rfl (by decide +kernel)
def codes1 : List Jvm.Cond := [Jvm.Cond.code x code maxLocals ret, Jvm.Cond.code ({ cls := "com/example/thabiti/thabiti/core/Bindings", name := "<init>", desc := "(II)V" } : Jvm.MethodName) prog_8_method_1_code (4 : Nat) (Option.none : Option Jvm.ClassFile.FieldType), Jvm.Cond.code ({ cls := "java/lang/Object", name := "<init>", desc := "()V" } : Jvm.MethodName) object_method_1_code (1 : Nat) (Option.none : Option Jvm.ClassFile.FieldType), Jvm.Cond.code ({ cls := "com/example/thabiti/thabiti/core/BindingsUndoPinLaw", name := "step", desc := "(Lcom/example/thabiti/thabiti/core/Bindings;I)Z" } : Jvm.MethodName) method_4_code (4 : Nat) (Option.some Jvm.ClassFile.FieldType.boolean), Jvm.Cond.code ({ cls := "com/example/thabiti/thabiti/core/BindingsUndoPinLaw", name := "code", desc := "(I)I" } : Jvm.MethodName) method_3_code (1 : Nat) (Option.some Jvm.ClassFile.FieldType.int), Jvm.Cond.code ({ cls := "com/example/thabiti/thabiti/core/Bindings", name := "requireConstant", desc := "(I)Z" } : Jvm.MethodName) prog_8_method_11_code (4 : Nat) (Option.some Jvm.ClassFile.FieldType.boolean), Jvm.Cond.code ({ cls := "com/example/thabiti/thabiti/core/Bindings", name := "resolve", desc := "(I)I" } : Jvm.MethodName) prog_8_method_6_code (4 : Nat) (Option.some Jvm.ClassFile.FieldType.int), Jvm.Cond.code ({ cls := "com/example/thabiti/thabiti/core/Bindings", name := "valueCode", desc := "(I)I" } : Jvm.MethodName) prog_8_method_2_code (1 : Nat) (Option.some Jvm.ClassFile.FieldType.int), Jvm.Cond.code ({ cls := "com/example/thabiti/thabiti/core/Bindings", name := "unify", desc := "(II)Z" } : Jvm.MethodName) prog_8_method_10_code (6 : Nat) (Option.some Jvm.ClassFile.FieldType.boolean), Jvm.Cond.code ({ cls := "com/example/thabiti/thabiti/core/Bindings", name := "mark", desc := "()I" } : Jvm.MethodName) prog_8_method_4_code (1 : Nat) (Option.some Jvm.ClassFile.FieldType.int), Jvm.Cond.code ({ cls := "com/example/thabiti/thabiti/core/Bindings", name := "undo", desc := "(I)V" } : Jvm.MethodName) prog_8_method_5_code (4 : Nat) (Option.none : Option Jvm.ClassFile.FieldType), Jvm.Cond.code ({ cls := "com/example/thabiti/thabiti/core/BindingsUndoPinLaw", name := "snap", desc := "(Lcom/example/thabiti/thabiti/core/Bindings;)I" } : Jvm.MethodName) method_5_code (2 : Nat) (Option.some Jvm.ClassFile.FieldType.int), Jvm.Cond.code ({ cls := "com/example/thabiti/thabiti/core/Bindings", name := "find", desc := "(I)I" } : Jvm.MethodName) prog_8_method_12_code (3 : Nat) (Option.some Jvm.ClassFile.FieldType.int), Jvm.Cond.code ({ cls := "com/example/thabiti/thabiti/core/Bindings", name := "isConstant", desc := "(I)Z" } : Jvm.MethodName) prog_8_method_8_code (3 : Nat) (Option.some Jvm.ClassFile.FieldType.boolean), Jvm.Cond.code ({ cls := "com/example/thabiti/thabiti/core/Bindings", name := "bind", desc := "(II)Z" } : Jvm.MethodName) prog_8_method_13_code (3 : Nat) (Option.some Jvm.ClassFile.FieldType.boolean), Jvm.Cond.code ({ cls := "com/example/thabiti/thabiti/core/Bindings", name := "record", desc := "(II)V" } : Jvm.MethodName) prog_8_method_15_code (3 : Nat) (Option.none : Option Jvm.ClassFile.FieldType), Jvm.Cond.code ({ cls := "com/example/thabiti/thabiti/core/Bindings", name := "value", desc := "(I)I" } : Jvm.MethodName) prog_8_method_3_code (1 : Nat) (Option.some Jvm.ClassFile.FieldType.int), Jvm.Cond.code ({ cls := "com/example/thabiti/thabiti/core/Bindings", name := "join", desc := "(II)V" } : Jvm.MethodName) prog_8_method_14_code (5 : Nat) (Option.none : Option Jvm.ClassFile.FieldType)]
set_option maxRecDepth 65536 in
theorem codes_eq : words1.filter isCode = codes1 := rfl
theorem w_codes : ∀ c ∈ words1.filter isCode, c.before args0 about1 = true := by
  rw [codes_eq]
  intro c hc
  simp only [codes1, List.mem_cons, List.not_mem_nil, or_false] at hc
  rcases hc with rfl | rfl | rfl | rfl | rfl | rfl | rfl | rfl | rfl | rfl | rfl | rfl | rfl | rfl | rfl | rfl | rfl | rfl
  · exact w_c0
  · exact w_c1
  · exact w_c2
  · exact w_c3
  · exact w_c4
  · exact w_c5
  · exact w_c6
  · exact w_c7
  · exact w_c8
  · exact w_c9
  · exact w_c10
  · exact w_c11
  · exact w_c12
  · exact w_c13
  · exact w_c14
  · exact w_c15
  · exact w_c16
  · exact w_c17
set_option maxRecDepth 65536 in
theorem w_t1 : (words1.take 24).all (fun c => isCode c || c.before args0 about1) = true := by decide +kernel
set_option maxRecDepth 65536 in
theorem w_t2 : ((words1.drop 24).take 24).all (fun c => isCode c || c.before args0 about1) = true := by decide +kernel
set_option maxRecDepth 65536 in
theorem w_t3 : (((words1.drop 24).drop 24).take 24).all (fun c => isCode c || c.before args0 about1) = true := by decide +kernel
set_option maxRecDepth 65536 in
theorem w_t4 : (((words1.drop 24).drop 24).drop 24).all (fun c => isCode c || c.before args0 about1) = true := by decide +kernel
theorem w_tables : (allAtoms (Jvm.Cond.code x code maxLocals ret :: tables_1)).before args0 about1 = true := by
  rw [allAtoms_all]
  show words1.all (fun c => c.before args0 about1) = true
  refine all_split ?_ w_codes
  rw [← List.take_append_drop 24 words1, List.all_append, w_t1, ← List.take_append_drop 24 (words1.drop 24), List.all_append, w_t2, ← List.take_append_drop 24 ((words1.drop 24).drop 24), List.all_append, w_t3, w_t4]
  rfl
set_option maxRecDepth 65536 in
theorem w_case : (Jvm.Cond.and given_1 narrow_1).before args0 about1 = true := by decide +kernel
theorem w_applies : (headSpec (Jvm.Cond.code x code maxLocals ret :: tables_1) room_1).applies x e0.platform about1 = true :=
  (Spec.applies_iff w_frames).mpr ⟨w_running, w_runnable, w_alone, w_named, w_hears, w_ripe, w_room, w_tables⟩
theorem atStart : AtStart classFile x code maxLocals ret World_1 tables_1 room_1 Calls_1 rest_1 Pre_1 launch0 p0 e0 about1 theMethod args0 below0 :=
  ⟨lists_1, trivial, launch0.admits_env _ _ _, launch0.least_env, fairChoices_fair.cas, fairChoices_fair.clock, w_frames, w_args, w_heap, w_applies, trivial, trivial, w_case⟩
end start1
theorem witness_1 : WitnessClaimed_1 := ⟨start1.p0, start1.e0, start1.about1, start1.theMethod, start1.args0, start1.below0, start1.atStart⟩
end Jvm.Pilot.@@N@@
