import JvmDerived
import JvmDerived.Pilot.@@N@@Statement
import JvmDerived.Pilot.@@N@@Code
set_option linter.unusedVariables false
set_option linter.unusedSimpArgs false
namespace Jvm.OwnKit
open Sem ClassFile Op Lib Jvm.Stand Jvm.Free Jvm.LawKit Jvm.RoadKit
/-! my own layer: an abstract heap of the objects and arrays that the law makes, and a run that goes on to its end -/
abbrev AH : Type := List (Nat × List Value)
abbrev Dic : Type := Nat → String × List (String × String × String)
def lf (n0 : Nat) : Value → Value
  | .ref i => .ref (n0 + i)
  | v => v
def aty : Nat → FieldType
  | 0 => .int
  | 1 => .char
  | 2 => .byte
  | 3 => .long
  | 4 => .boolean
  | _ => .short
def asI : Option Value → Option Int32
  | some (.int x) => some x
  | _ => none
def asJ : Option Value → Option Int64
  | some (.long x) => some x
  | _ => none
def asR : Option Value → Option Nat
  | some (.ref x) => some x
  | _ => none
theorem asI_s {o : Option Value} {x : Int32} (h : asI o = some x) : o = some (.int x) := by
  unfold asI at h; split at h <;> simp_all
theorem asJ_s {o : Option Value} {x : Int64} (h : asJ o = some x) : o = some (.long x) := by
  unfold asJ at h; split at h <;> simp_all
theorem asR_s {o : Option Value} {x : Nat} (h : asR o = some x) : o = some (.ref x) := by
  unfold asR at h; split at h <;> simp_all
/-- a field, a component: read, written -/
def h_fget (A : AH) (t a k : Nat) : Option Value := match A[a]? with
  | some (t', vs) => if t' = t then vs[k]? else none
  | none => none
def h_fset (A : AH) (t a k : Nat) (v : Value) : Option AH := match A[a]? with
  | some (t', vs) => if t' = t ∧ k < vs.length then some (A.set a (t', vs.set k v)) else none
  | none => none
def h_aget (A : AH) (t a : Nat) (j : Int32) : Option Value := if j < 0 then none else h_fget A t a j.toNatClampNeg
def h_aset (A : AH) (t a : Nat) (j : Int32) (v : Value) : Option AH := if j < 0 then none else h_fset A t a j.toNatClampNeg v
def h_alen (A : AH) (t a : Nat) : Option Int32 := match A[a]? with
  | some (t', vs) => if t' = t then some vs.length.toInt32 else none
  | none => none
def h_onew (A : AH) (t : Nat) (ds : List Value) : Option (Nat × AH) := some (A.length, A ++ [(t, ds)])
def h_anew (A : AH) (t cap : Nat) (n : Int32) (d : Value) : Option (Nat × AH) := if n < 0 ∨ cap < n.toNatClampNeg then none else some (A.length, A ++ [(t, List.replicate n.toNatClampNeg d)])
def h_isA (A : AH) (t a : Nat) : Option Unit := match A[a]? with
  | some (t', _) => if t' = t then some () else none
  | none => none
/-- what the heap holds of them -/
def OKa (Z : State) (h : Heap) (a : Addr) (ty : FieldType) (vs : List Value) : Prop := ∃ cl : Cell, Arr Z h a cl ty ∧ cl.slots.toList = vs ∧ vs.length < 2 ^ 31 ∧ ∀ v ∈ vs, fits ty v = true
def OKo (Z : State) (h : Heap) (a : Addr) (C : String) (L : List (String × String × String)) (vs : List Value) : Prop := Exa Z h a C ∧ ∀ (k : Nat) (O n d : String) (v : Value), L[k]? = some (O, n, d) → vs[k]? = some v → Fld Z h a O n d v
def OKx (D : Dic) (Z : State) (h : Heap) (a : Addr) (t : Nat) (vs : List Value) : Prop := (t < 10 → OKa Z h a (aty t) vs) ∧ (10 ≤ t → OKo Z h a (D t).1 (D t).2 vs)
def Rep (D : Dic) (Z : State) (n0 : Nat) (h : Heap) (A : AH) : Prop := h.size = n0 + A.length ∧ ∀ (i t : Nat) (vs : List Value), A[i]? = some (t, vs) → OKx D Z h (n0 + i) t (vs.map (lf n0))
def Sep (Z : State) (L : List (String × String × String)) : Prop := ∀ (k k' : Nat) (O n d O' n' d' : String), L[k]? = some (O, n, d) → L[k']? = some (O', n', d') → k ≠ k' → Jvm.RoadKit.slotOf Z O n d ≠ Jvm.RoadKit.slotOf Z O' n' d'
theorem Sep.nil {Z : State} : Sep Z [] := fun k k' O n d O' n' d' h => by simp at h
theorem sep_of {Z : State} {a0 : Array Value} {C : String} {L : List (String × String × String)} (hl : ∀ x ∈ L, Laid Z a0 C x.1 x.2.1 x.2.2 ∧ (parseFieldDescriptor x.2.2).isSome = true) (hn : (L.map fun x => x.2.1).Nodup) : Sep Z L := by
  intro k k' O n d O' n' d' h h' ne
  obtain ⟨l1, p1⟩ := hl _ (List.mem_of_getElem? h)
  obtain ⟨l2, p2⟩ := hl _ (List.mem_of_getElem? h')
  obtain ⟨t1, e1⟩ := Option.isSome_iff_exists.mp p1
  obtain ⟨t2, e2⟩ := Option.isSome_iff_exists.mp p2
  refine slot_ne l1 l2 ?_ e1 e2
  intro q
  obtain ⟨b1, g1⟩ := List.getElem?_eq_some_iff.mp h
  obtain ⟨b2, g2⟩ := List.getElem?_eq_some_iff.mp h'
  refine ne ((List.getElem_inj (xs := L.map fun x => x.2.1) (h₀ := by simpa using b1) (h₁ := by simpa using b2) hn).mp ?_)
  simp only [List.getElem_map, g1, g2]; exact q
section Facts
variable {D : Dic} {Z : State} {n0 : Nat} {h h' : Heap} {A A' : AH} {t a k : Nat} {v : Value}
theorem fget_s (hg : h_fget A t a k = some v) : ∃ vs, A[a]? = some (t, vs) ∧ vs[k]? = some v := by
  unfold h_fget at hg; split at hg
  · rename_i t' vs e
    split at hg
    · rename_i q; subst q; exact ⟨vs, e, hg⟩
    · cases hg
  · cases hg
theorem fset_s (hg : h_fset A t a k v = some A') : ∃ vs, A[a]? = some (t, vs) ∧ k < vs.length ∧ A' = A.set a (t, vs.set k v) := by
  unfold h_fset at hg; split at hg
  · rename_i t' vs e
    split at hg
    · rename_i q; obtain ⟨rfl, q⟩ := q; exact ⟨vs, e, q, (Option.some.inj hg).symm⟩
    · cases hg
  · cases hg
theorem aget_s {j : Int32} (hg : h_aget A t a j = some v) : ¬ j < 0 ∧ h_fget A t a j.toNatClampNeg = some v := by
  unfold h_aget at hg; split at hg
  · cases hg
  · exact ⟨by assumption, hg⟩
theorem aset_s {j : Int32} (hg : h_aset A t a j v = some A') : ¬ j < 0 ∧ h_fset A t a j.toNatClampNeg v = some A' := by
  unfold h_aset at hg; split at hg
  · cases hg
  · exact ⟨by assumption, hg⟩
theorem isA_s {u : Unit} (hg : h_isA A t a = some u) : ∃ vs, A[a]? = some (t, vs) := by
  unfold h_isA at hg; split at hg
  · rename_i t' vs e
    split at hg
    · rename_i q; subst q; exact ⟨vs, e⟩
    · cases hg
  · cases hg
theorem Rep.exa (RA : Rep D Z n0 h A) (ht : 10 ≤ t) {vs : List Value} (hA : A[a]? = some (t, vs)) : Exa Z h (n0 + a) (D t).1 := ((RA.2 a t vs hA).2 ht).1
theorem Rep.fld (RA : Rep D Z n0 h A) (ht : 10 ≤ t) (hg : h_fget A t a k = some v) {O n d : String} (hk : (D t).2[k]? = some (O, n, d)) : Fld Z h (n0 + a) O n d (lf n0 v) := by
  obtain ⟨vs, e, q⟩ := fget_s hg
  exact ((RA.2 a t vs e).2 ht).2 k O n d _ hk (by simp [q])
theorem Rep.arr (RA : Rep D Z n0 h A) (ht : t < 10) {vs : List Value} (hA : A[a]? = some (t, vs)) : ∃ cl : Cell, Arr Z h (n0 + a) cl (aty t) ∧ cl.slots.toList = vs.map (lf n0) ∧ vs.length < 2 ^ 31 ∧ ∀ v ∈ vs.map (lf n0), fits (aty t) v = true := by
  obtain ⟨cl, h1, h2, h3, h4⟩ := (RA.2 a t vs hA).1 ht
  exact ⟨cl, h1, h2, by simpa using h3, h4⟩
theorem Rep.at (RA : Rep D Z n0 h A) (ht : t < 10) {j : Int32} (hg : h_aget A t a j = some v) : ∃ cl : Cell, Arr Z h (n0 + a) cl (aty t) ∧ ¬ (j < 0 ∨ cl.slots.size ≤ j.toNatClampNeg) ∧ cl.slots[j.toNatClampNeg]? = some (lf n0 v) := by
  obtain ⟨hj, hg⟩ := aget_s hg
  obtain ⟨vs, e, q⟩ := fget_s hg
  obtain ⟨cl, h1, h2, -⟩ := RA.arr ht e
  have h4 : cl.slots[j.toNatClampNeg]? = some (lf n0 v) := by rw [← Array.getElem?_toList, h2]; simp [q]
  refine ⟨cl, h1, ?_, h4⟩
  rintro (c | c)
  · exact hj c
  · exact absurd (Array.getElem?_eq_some_iff.mp h4).1 (Nat.not_lt.mpr c)
theorem OKx.other {sl : Nat} {w : Value} {b : Addr} {vs : List Value} (X : OKx D Z h b t vs) (W : Wr h h' a sl w) (ne : b ≠ a) : OKx D Z h' b t vs := by
  refine ⟨fun q => ?_, fun q => ?_⟩
  · obtain ⟨cl, h1, h2⟩ := X.1 q; exact ⟨cl, h1.other W ne, h2⟩
  · obtain ⟨h1, h2⟩ := X.2 q; exact ⟨h1.wr W, fun k O n d v e1 e2 => (h2 k O n d v e1 e2).other W (Or.inl ne)⟩
theorem Rep.set (RA : Rep D Z n0 h A) {sl : Nat} {w : Value} {vs : List Value} (hl : a < A.length) (W : Wr h h' (n0 + a) sl w) (hN : OKx D Z h' (n0 + a) t (vs.map (lf n0))) : Rep D Z n0 h' (A.set a (t, vs)) := by
  refine ⟨by rw [W.size, RA.1, List.length_set], fun i t' vs' e => ?_⟩
  by_cases q : a = i
  · subst q
    rw [List.getElem?_set_self hl] at e
    obtain ⟨rfl, rfl⟩ := Prod.mk.inj (Option.some.inj e); exact hN
  · rw [List.getElem?_set_ne q] at e
    exact (RA.2 i t' vs' e).other W (fun z => q (Nat.add_left_cancel z).symm)
theorem Rep.wrF (sep : Sep Z (D t).2) (RA : Rep D Z n0 h A) (ht : 10 ≤ t) (hp : h_fset A t a k v = some A') {O n d : String} (hk : (D t).2[k]? = some (O, n, d)) (W : Wr h h' (n0 + a) (Jvm.RoadKit.slotOf Z O n d) (lf n0 v)) : Rep D Z n0 h' A' := by
  obtain ⟨vs, e, q, rfl⟩ := fset_s hp
  refine RA.set (List.getElem?_eq_some_iff.mp e).1 W ⟨fun z => absurd ht (by omega), fun _ => ?_⟩
  obtain ⟨h1, h2⟩ := (RA.2 a t vs e).2 ht
  refine ⟨h1.wr W, fun k' O' n' d' v' e1 e2 => ?_⟩
  rw [List.map_set] at e2
  by_cases c : k = k'
  · subst c
    rw [List.getElem?_set_self (by simpa using q)] at e2
    cases hk.symm.trans e1
    cases e2
    exact (h2 k O n d _ hk (List.getElem?_eq_getElem (by simpa using q))).same W
  · rw [List.getElem?_set_ne c] at e2
    exact (h2 k' O' n' d' v' e1 e2).other W (Or.inr (sep k' k O' n' d' O n d e1 hk (Ne.symm c)))
theorem Rep.wrA (RA : Rep D Z n0 h A) (ht : t < 10) {j : Int32} (hp : h_aset A t a j v = some A') (hft : fits (aty t) (lf n0 v) = true) (W : Wr h h' (n0 + a) j.toNatClampNeg (lf n0 v)) : Rep D Z n0 h' A' := by
  obtain ⟨-, hp⟩ := aset_s hp
  obtain ⟨vs, e, q, rfl⟩ := fset_s hp
  refine RA.set (List.getElem?_eq_some_iff.mp e).1 W ⟨fun z => ?_, fun z => absurd ht (by omega)⟩
  obtain ⟨cl, h1, h2, h3, h4⟩ := RA.arr ht e
  refine ⟨_, h1.same W, ?_, by simpa using h3, fun u hu => ?_⟩
  · show (cl.slots.setIfInBounds _ _).toList = _
    rw [Array.toList_setIfInBounds, h2, List.map_set]
  · rw [List.map_set] at hu
    rcases List.mem_or_eq_of_mem_set hu with q | q
    · exact h4 u q
    · rw [q]; exact hft
theorem Rep.into (RA : Rep D Z n0 h A) (ht : t < 10) {j : Int32} (hp : h_aset A t a j v = some A') : ∃ cl : Cell, Arr Z h (n0 + a) cl (aty t) ∧ ¬ (j < 0 ∨ cl.slots.size ≤ j.toNatClampNeg) := by
  obtain ⟨hj, hp⟩ := aset_s hp
  obtain ⟨vs, e, q, rfl⟩ := fset_s hp
  obtain ⟨cl, h1, h2, -⟩ := RA.arr ht e
  refine ⟨cl, h1, ?_⟩
  have : cl.slots.size = vs.length := by rw [← Array.length_toList, h2]; simp
  rintro (c | c)
  · exact hj c
  · omega
theorem OKx.ext {b : Addr} {vs : List Value} (X : OKx D Z h b t vs) (E : Ext h h') : OKx D Z h' b t vs := by
  refine ⟨fun q => ?_, fun q => ?_⟩
  · obtain ⟨cl, h1, h2⟩ := X.1 q; exact ⟨cl, h1.ext E, h2⟩
  · obtain ⟨h1, h2⟩ := X.2 q; exact ⟨h1.ext E, fun k O n d v e1 e2 => (h2 k O n d v e1 e2).ext E⟩
theorem ext_push (h : Heap) (cl : Cell) : Ext h (h.push cl) := ⟨by simp, fun a c e => by rw [Array.getElem?_push_lt (Array.getElem?_eq_some_iff.mp e).1]; exact (Array.getElem?_eq_getElem _).symm.trans e⟩
theorem Rep.push (RA : Rep D Z n0 h A) {cl : Cell} {vs : List Value} (hN : OKx D Z (h.push cl) h.size t (vs.map (lf n0))) : Rep D Z n0 (h.push cl) (A ++ [(t, vs)]) := by
  refine ⟨by rw [Array.size_push, RA.1, List.length_append]; rfl, fun i t' vs' e => ?_⟩
  by_cases q : i < A.length
  · rw [List.getElem?_append_left q] at e
    exact (RA.2 i t' vs' e).ext (ext_push h cl)
  · rw [List.getElem?_append_right (Nat.le_of_not_lt q)] at e
    have e0 : i - A.length = 0 := by
      have := (List.getElem?_eq_some_iff.mp e).1; simp at this; omega
    rw [e0] at e
    obtain ⟨rfl, rfl⟩ := Prod.mk.inj (Option.some.inj e)
    have : i = A.length := by omega
    have e2 : n0 + i = h.size := by rw [RA.1, this]
    rw [e2]; exact hN
end Facts
/-! reading and writing, in plain words -/
theorem eq64 {x y : Int} (h : (x - y) % 18446744073709551616 = 0) (x1 : -9223372036854775808 ≤ x) (x2 : x < 9223372036854775808) (y1 : -9223372036854775808 ≤ y) (y2 : y < 9223372036854775808) : x = y := by omega
theorem eq32 {x y : Int} (h : (x - y) % 4294967296 = 0) (x1 : -2147483648 ≤ x) (x2 : x < 2147483648) (y1 : -2147483648 ≤ y) (y2 : y < 2147483648) : x = y := by omega
theorem nar1 : nar .boolean (1 : Int32) = 1 := by decide
theorem nar0 : nar .boolean (0 : Int32) = 0 := by decide
theorem nclamp (j : Int32) : j.toNatClampNeg = j.toInt.toNat := rfl
theorem nneg {j : Int32} : ¬ j < 0 ↔ 0 ≤ j.toInt := by rw [Int32.lt_iff_toInt_lt]; show ¬ _ < (0 : Int) ↔ _; omega
theorem aset_ok {A : AH} {t a : Nat} {vs : List Value} {j : Int32} {v : Value} (hA : A[a]? = some (t, vs)) (h0 : 0 ≤ j.toInt) (h1 : j.toInt < vs.length) : h_aset A t a j v = some (A.set a (t, vs.set j.toInt.toNat v)) := by
  unfold h_aset; rw [if_neg (nneg.mpr h0)]; unfold h_fset; rw [hA]; simp only [nclamp]
  have : j.toInt.toNat < vs.length := by omega
  rw [if_pos ⟨trivial, this⟩]
theorem aget_ok {A : AH} {t a : Nat} {vs : List Value} {j : Int32} (hA : A[a]? = some (t, vs)) (h0 : 0 ≤ j.toInt) : h_aget A t a j = vs[j.toInt.toNat]? := by
  unfold h_aget; rw [if_neg (nneg.mpr h0)]; unfold h_fget; rw [hA]; simp only [nclamp, if_true]
theorem anew_ok {A : AH} {t cap : Nat} {n : Int32} {d : Value} (h0 : 0 ≤ n.toInt) (h1 : n.toInt ≤ cap) : h_anew A t cap n d = some (A.length, A ++ [(t, List.replicate n.toInt.toNat d)]) := by
  unfold h_anew; rw [nclamp, if_neg (by rintro (c | c); exact nneg.mpr h0 c; omega)]
theorem aset1 {t : Nat} {vs : List Value} {j : Int32} {v : Value} (h0 : 0 ≤ j.toInt) (h1 : j.toInt < vs.length) : h_aset [(t, vs)] t 0 j v = some [(t, vs.set j.toInt.toNat v)] := aset_ok rfl h0 h1
theorem aget1 {t : Nat} {vs : List Value} {j : Int32} (h0 : 0 ≤ j.toInt) : h_aget [(t, vs)] t 0 j = vs[j.toInt.toNat]? := aget_ok rfl h0
/-! ### a run that goes on to its end -/
def Go (p : Program) (e : Env) (below : List Frame) (S : State) (G : Outcome → State → Prop) : Prop := ∃ t o, Steps p.tables e below S t ∧ t.status = .running ∧ Ended t below o ∧ G o t
def QR (D : Dic) (Z : State) (n0 : Nat) (r : Option Value) (A : AH) (v : Option Value) (h : Heap) (L : List Loc) : Prop := v = r ∧ Fr n0 L ∧ Rep D Z n0 h A
def Fini (D : Dic) (Z : State) (n0 : Nat) (s : State) (R : Room) (r : Option Value) (A : AH) : Outcome → State → Prop := fun o t => ∃ v L, o = .returned v ∧ QR D Z n0 r A v t.heap L ∧ FrameEnd s o t L R.cells R.slots
def On (p : Program) (l : Launch) (e : Env) (R : Room) (s : State) (m : MethodId) (args : Array Value) (below : List Frame) (meth : Method) (c : Code) (D : Dic) (Z : State) (n0 : Nat) (T : State) (A : AH) (cells slots : Nat) : Prop :=
  ∃ locs, Stand p l e R s m args below meth c T locs cells slots ∧ Fr n0 locs ∧ Rep D Z n0 T.heap A
def Cx (p : Program) (l : Launch) (e : Env) (R : Room) (s : State) (m : MethodId) (meth : Method) (c : Code) (Z : State) (a0 : Array Value) (W : List Jvm.Cond) (own nm : String) (bytes : ByteArray) (ml : Nat) (rt : Option FieldType) : Prop :=
  p.tables.exec = Jvm.exec ∧ Z.Warmed39 s.vm ∧ s.vm.findClass own = some m.cls ∧ c.code = bytes ∧ c.maxLocals = ml ∧ meth.sig.returnType = rt ∧ meth.locks = false ∧ meth.name = nm ∧ ∀ d ∈ W, d.before a0 Z = true
def Met (l : Launch) (D : Dic) (Z : State) (n0 : Nat) (y : MethodName) (bytes : ByteArray) (ml : Nat) (rt : Option FieldType) (R : Room) (as : List Value) (A : AH) (r : Option Value) (A' : AH) : Prop :=
  ∀ (ws : List Jvm.Cond) (h0 : Heap), Rep D Z n0 h0 A → MetFree l y (head1 (Jvm.Cond.code y bytes ml rt :: ws) R) (fun a U => a = as.toArray ∧ Z.Warmed39 U.vm ∧ U.heap = h0) (fun _ _ _ _ _ => True) (fun _ U o U' => ∃ v L, o = .returned v ∧ QR D Z n0 r A' v U'.heap L ∧ FrameEnd U o U' L R.cells R.slots)
section Walk
variable {p : Program} {l : Launch} {e : Env} {R : Room} {s : State} {m : MethodId} {args : Array Value} {below : List Frame} {meth : Method} {c : Code} {Z : State} {a0 : Array Value} {W : List Jvm.Cond} {own nm : String} {bytes : ByteArray} {ml : Nat} {rt : Option FieldType} {D : Dic} {n0 : Nat} {T : State} {A A' : AH} {cells slots : Nat} {G : Outcome → State → Prop} {pc : Nat} {Ls : Array Slot} {st : List Value}
theorem go {S S' : State} (h : ∀ t, Steps p.tables e below S' t → Steps p.tables e below S t) (k : Go p e below S' G) : Go p e below S G := by
  obtain ⟨t, o, h1, h2⟩ := k; exact ⟨t, o, h t h1, h2⟩
theorem On.here (X : On p l e R s m args below meth c D Z n0 T A cells slots) : At T m c below := by obtain ⟨_, X, -⟩ := X; exact X.here
theorem On.more {cells' slots' : Nat} (X : On p l e R s m args below meth c D Z n0 T A cells slots) (hc : cells ≤ cells') (hs : slots ≤ slots') : On p l e R s m args below meth c D Z n0 T A cells' slots' := by
  obtain ⟨locs, X, N⟩ := X; exact ⟨locs, X.more hc hs, N⟩
theorem wd {d : Jvm.Cond} (K : Cx p l e R s m meth c Z a0 W own nm bytes ml rt) {i : Nat} (h : W[i]? = some d) : d.before a0 Z = true := K.2.2.2.2.2.2.2.2 d (List.mem_of_getElem? h)
theorem dc (K : Cx p l e R s m meth c Z a0 W own nm bytes ml rt) {r : Except DecodeError (Instr × Nat)} (h : decode bytes pc = r) : decode c.code pc = r := K.2.2.2.1 ▸ h
theorem ldcI (K : Cx p l e R s m meth c Z a0 W own nm bytes ml rt) (X : On p l e R s m args below meth c D Z n0 T A cells slots) {i idx : Nat} {v : Int32} (w : W[i]? = some (.constant own idx v)) (hd : decode bytes pc = .ok (.ldc idx, 2))
    {pc' : Nat} (hp : pc + 2 = pc') (k : Go p e below (T.setTop (mkF m pc'  Ls (.int v :: st))) G) : Go p e below (T.setTop (mkF m pc Ls st)) G := by
  subst hp
  obtain ⟨locs, X, -⟩ := X
  exact go (X.ldcInt K.1 K.2.2.1 (mvT K.2.1 (wd K w)) (g := mkF m pc Ls st) rfl (dc K hd)) k
theorem ldcwI (K : Cx p l e R s m meth c Z a0 W own nm bytes ml rt) (X : On p l e R s m args below meth c D Z n0 T A cells slots) {i idx : Nat} {v : Int32} (w : W[i]? = some (.constant own idx v)) (hd : decode bytes pc = .ok (.ldc_w idx, 3))
    {pc' : Nat} (hp : pc + 3 = pc') (k : Go p e below (T.setTop (mkF m pc'  Ls (.int v :: st))) G) : Go p e below (T.setTop (mkF m pc Ls st)) G := by
  subst hp
  obtain ⟨locs, X, -⟩ := X
  exact go (X.ldcwInt K.1 K.2.2.1 (mvT K.2.1 (wd K w)) (g := mkF m pc Ls st) rfl (dc K hd)) k
theorem ldcL (K : Cx p l e R s m meth c Z a0 W own nm bytes ml rt) (X : On p l e R s m args below meth c D Z n0 T A cells slots) {i idx : Nat} {v : Int64} (w : W[i]? = some (.constantLong own idx v)) (hd : decode bytes pc = .ok (.ldc2_w idx, 3))
    {pc' : Nat} (hp : pc + 3 = pc') (k : Go p e below (T.setTop (mkF m pc'  Ls (.long v :: st))) G) : Go p e below (T.setTop (mkF m pc Ls st)) G := by
  subst hp
  obtain ⟨locs, X, -⟩ := X
  exact go (X.ldc2Long K.1 K.2.2.1 (mvT K.2.1 (wd K w)) (g := mkF m pc Ls st) rfl (dc K hd)) k
/-! the returns -/
theorem retV (K : Cx p l e R s m meth c Z a0 W own nm bytes ml none) (X : On p l e R s m args below meth c D Z n0 T A cells slots) (hc : cells ≤ R.cells) (hs : slots ≤ R.slots) (hd : decode bytes pc = .ok (.return_, 1)) :
    Go p e below (T.setTop (mkF m pc Ls [])) (Fini D Z n0 s R none A) := by
  obtain ⟨locs, X, N, RA⟩ := X
  obtain ⟨fs, hr, hrun, hended, hW, hsame⟩ := X.leave (v := none) (fun _ => rfl) K.2.2.2.2.2.2.1
  exact ⟨_, _, X.returnOut K.1 K.2.2.2.2.2.1 (dc K hd) hr, hrun, hended, none, locs, rfl, ⟨rfl, N, RA⟩, ⟨_, rfl⟩, hW, hsame.mono hc hs⟩
theorem retX {t : FieldType} {i : Instr} {w : Value} (K : Cx p l e R s m meth c Z a0 W own nm bytes ml (some t)) (X : On p l e R s m args below meth c D Z n0 T A cells slots) (hc : cells ≤ R.cells) (hs : slots ≤ R.slots) (hd : decode bytes pc = .ok (i, 1)) (hn : narrow t w = w)
    (hi : (i = .ireturn ∧ (t = .int ∨ t = .boolean ∨ t = .byte ∨ t = .char ∨ t = .short) ∧ ∃ z, w = .int z) ∨ (i = .lreturn ∧ t = .long ∧ ∃ z, w = .long z) ∨ (i = .dreturn ∧ t = .double ∧ ∃ z, w = .double z) ∨ (i = .freturn ∧ t = .float ∧ ∃ z, w = .float z) ∨ (i = .areturn ∧ t.isReference = true ∧ w.isRef = true)) :
    Go p e below (T.setTop (mkF m pc Ls (w :: st))) (Fini D Z n0 s R (some w) A) := by
  obtain ⟨locs, X, N, RA⟩ := X
  obtain ⟨fs, hr, hrun, hended, hW, hsame⟩ := X.leave (v := some w) (fun h => by rw [K.2.2.2.2.2.1] at h; cases h) K.2.2.2.2.2.2.1
  exact ⟨_, _, Jvm.RoadKit.retOut X K.1 K.2.2.2.2.2.1 hn hi (dc K hd) hr, hrun, hended, some w, locs, rfl, ⟨rfl, N, RA⟩, ⟨_, rfl⟩, hW, hsame.mono hc hs⟩
theorem retI {z : Int32} (K : Cx p l e R s m meth c Z a0 W own nm bytes ml (some .int)) (X : On p l e R s m args below meth c D Z n0 T A cells slots) (hc : cells ≤ R.cells) (hs : slots ≤ R.slots) (hd : decode bytes pc = .ok (.ireturn, 1)) :
    Go p e below (T.setTop (mkF m pc Ls (.int z :: st))) (Fini D Z n0 s R (some (.int z)) A) := retX K X hc hs hd rfl (Or.inl ⟨rfl, Or.inl rfl, z, rfl⟩)
theorem retJ {z : Int64} (K : Cx p l e R s m meth c Z a0 W own nm bytes ml (some .long)) (X : On p l e R s m args below meth c D Z n0 T A cells slots) (hc : cells ≤ R.cells) (hs : slots ≤ R.slots) (hd : decode bytes pc = .ok (.lreturn, 1)) :
    Go p e below (T.setTop (mkF m pc Ls (.long z :: st))) (Fini D Z n0 s R (some (.long z)) A) := retX K X hc hs hd rfl (Or.inr (Or.inl ⟨rfl, rfl, z, rfl⟩))
theorem retR {a : Addr} {t : FieldType} (K : Cx p l e R s m meth c Z a0 W own nm bytes ml (some t)) (ht : t.isReference = true) (hn : narrow t (.ref a) = .ref a) (X : On p l e R s m args below meth c D Z n0 T A cells slots) (hc : cells ≤ R.cells) (hs : slots ≤ R.slots) (hd : decode bytes pc = .ok (.areturn, 1)) :
    Go p e below (T.setTop (mkF m pc Ls (.ref a :: st))) (Fini D Z n0 s R (some (.ref a)) A) := retX K X hc hs hd hn (Or.inr (Or.inr (Or.inr (Or.inr ⟨rfl, ht, rfl⟩))))
theorem retB {z : Int32} {t : FieldType} (K : Cx p l e R s m meth c Z a0 W own nm bytes ml (some t)) (ht : t = .boolean ∨ t = .byte ∨ t = .char ∨ t = .short) (X : On p l e R s m args below meth c D Z n0 T A cells slots) (hc : cells ≤ R.cells) (hs : slots ≤ R.slots) (hd : decode bytes pc = .ok (.ireturn, 1)) :
    Go p e below (T.setTop (mkF m pc Ls (.int z :: st))) (Fini D Z n0 s R (some (.int (nar t z))) A) := by
  obtain ⟨locs, X, N, RA⟩ := X
  obtain ⟨fs, hr, hrun, hended, hW, hsame⟩ := X.leave (v := some (.int (nar t z))) (fun h => by rw [K.2.2.2.2.2.1] at h; cases h) K.2.2.2.2.2.2.1
  exact ⟨_, _, Jvm.RoadKit.retN X K.1 K.2.2.2.2.2.1 ht (dc K hd) hr, hrun, hended, some (.int (nar t z)), locs, rfl, ⟨rfl, N, RA⟩, ⟨_, rfl⟩, hW, hsame.mono hc hs⟩
/-! fields -/
theorem getf (K : Cx p l e R s m meth c Z a0 W own nm bytes ml rt) (X : On p l e R s m args below meth c D Z n0 T A cells slots) {i idx t f a : Nat} {O n d : String} {v : Value} (w : W[i]? = some (.fieldLink own idx O n d)) (hd : decode bytes pc = .ok (.getfield idx, 3))
    (ht : 10 ≤ t) (hk : (D t).2[f]? = some (O, n, d)) (hg : h_fget A t a f = some v)
    {pc' : Nat} (hp : pc + 3 = pc') (k : ∀ T', On p l e R s m args below meth c D Z n0 T' A cells slots → Go p e below (T'.setTop (mkF m pc'  Ls (lf n0 v :: st))) G) : Go p e below (T.setTop (mkF m pc Ls (.ref (n0 + a) :: st))) G := by
  subst hp
  obtain ⟨locs, X, N, RA⟩ := X
  obtain ⟨T', X', e', stp⟩ := getF X K.1 K.2.1 K.2.2.1 (host := "") (Or.inl (wd K w)) Via.refl rfl (RA.fld ht hg hk) (g := mkF m pc Ls (.ref (n0 + a) :: st)) rfl rfl (dc K hd)
  exact go stp (k T' ⟨locs, X', N, by rw [e']; exact RA⟩)
theorem getfI (K : Cx p l e R s m meth c Z a0 W own nm bytes ml rt) (X : On p l e R s m args below meth c D Z n0 T A cells slots) {i idx t f a : Nat} {O n d : String} {v : Int32} (w : W[i]? = some (.fieldLink own idx O n d)) (hd : decode bytes pc = .ok (.getfield idx, 3))
    (ht : 10 ≤ t) (hk : (D t).2[f]? = some (O, n, d)) (hg : asI (h_fget A t a f) = some v)
    {pc' : Nat} (hp : pc + 3 = pc') (k : ∀ T', On p l e R s m args below meth c D Z n0 T' A cells slots → Go p e below (T'.setTop (mkF m pc' Ls (.int v :: st))) G) : Go p e below (T.setTop (mkF m pc Ls (.ref (n0 + a) :: st))) G := getf K X w hd ht hk (asI_s hg) hp k
theorem getfJ (K : Cx p l e R s m meth c Z a0 W own nm bytes ml rt) (X : On p l e R s m args below meth c D Z n0 T A cells slots) {i idx t f a : Nat} {O n d : String} {v : Int64} (w : W[i]? = some (.fieldLink own idx O n d)) (hd : decode bytes pc = .ok (.getfield idx, 3))
    (ht : 10 ≤ t) (hk : (D t).2[f]? = some (O, n, d)) (hg : asJ (h_fget A t a f) = some v)
    {pc' : Nat} (hp : pc + 3 = pc') (k : ∀ T', On p l e R s m args below meth c D Z n0 T' A cells slots → Go p e below (T'.setTop (mkF m pc' Ls (.long v :: st))) G) : Go p e below (T.setTop (mkF m pc Ls (.ref (n0 + a) :: st))) G := getf K X w hd ht hk (asJ_s hg) hp k
theorem getfR (K : Cx p l e R s m meth c Z a0 W own nm bytes ml rt) (X : On p l e R s m args below meth c D Z n0 T A cells slots) {i idx t f a : Nat} {O n d : String} {v : Nat} (w : W[i]? = some (.fieldLink own idx O n d)) (hd : decode bytes pc = .ok (.getfield idx, 3))
    (ht : 10 ≤ t) (hk : (D t).2[f]? = some (O, n, d)) (hg : asR (h_fget A t a f) = some v)
    {pc' : Nat} (hp : pc + 3 = pc') (k : ∀ T', On p l e R s m args below meth c D Z n0 T' A cells slots → Go p e below (T'.setTop (mkF m pc' Ls (.ref (n0 + v) :: st))) G) : Go p e below (T.setTop (mkF m pc Ls (.ref (n0 + a) :: st))) G := getf K X w hd ht hk (asR_s hg) hp k
theorem putf (K : Cx p l e R s m meth c Z a0 W own nm bytes ml rt) (sep : ∀ t, Sep Z (D t).2) (X : On p l e R s m args below meth c D Z n0 T A cells slots) {i idx t f a kk i2 : Nat} {O n d : String} {va v : Value} {ty : FieldType} (w : W[i]? = some (.fieldLink own idx O n d)) (hd : decode bytes pc = .ok (.putfield idx, 3))
    (ht : 10 ≤ t) (hk : (D t).2[f]? = some (O, n, d)) (wl : (Jvm.Cond.lays (D t).1 O n d).before a0 Z = true ∨ ((Jvm.Cond.laysFinal (D t).1 O n d).before a0 Z = true ∧ own = O ∧ nm = "<init>")) (wi : W[i2]? = some (.instantiable (D t).1 kk))
    (hty : parseFieldDescriptor d = some ty) (hn : narrow ty v = lf n0 va) (hf : fits ty (lf n0 va) = true) (hp : h_fset A t a f va = some A')
    {pc' : Nat} (hp : pc + 3 = pc') (k : ∀ T', On p l e R s m args below meth c D Z n0 T' A' cells slots → Go p e below (T'.setTop (mkF m pc'  Ls st)) G) : Go p e below (T.setTop (mkF m pc Ls (v :: .ref (n0 + a) :: st))) G := by
  subst hp
  obtain ⟨locs, X, N, RA⟩ := X
  obtain ⟨vs, hA, hlt, -⟩ := fset_s hp
  have F := RA.fld ht (show h_fget A t a f = some vs[f] by simp [h_fget, hA]) hk
  obtain ⟨T', h', X', e', W', stp⟩ := putFN X K.1 K.2.1 K.2.2.1 (wd K w) Via.refl rfl F (RA.exa ht hA) (wl.imp id fun q => ⟨q.1, q.2.1, K.2.2.2.2.2.2.2.1.trans q.2.2⟩) (wd K wi) hty hn hf (g := mkF m pc Ls (v :: .ref (n0 + a) :: st)) rfl rfl (dc K hd)
  exact go stp (k T' ⟨_, X', Fr.snoc X' N (Nat.le_add_right _ _), by rw [e']; exact RA.wrF (sep t) ht hp hk W'⟩)
/-! new -/
theorem newo (K : Cx p l e R s m meth c Z a0 W own nm bytes ml rt) (X : On p l e R s m args below meth c D Z n0 T A cells slots) {i1 i2 i3 idx n t : Nat} {ds : List Value} (w1 : W[i1]? = some (.classLink own idx (D t).1)) (w2 : W[i2]? = some (.instantiable (D t).1 n)) (w3 : W[i3]? = some (.initialized (D t).1))
    (hd : decode bytes pc = .ok (.new idx, 3)) (hc : cells + 1 ≤ R.cells) (hs : slots + n ≤ R.slots) (ht : 10 ≤ t) (hds : ∀ (k : Nat) (O f d : String) (v : Value), (D t).2[k]? = some (O, f, d) → ds[k]? = some v → ∃ ty, parseFieldDescriptor d = some ty ∧ Laid Z a0 (D t).1 O f d ∧ lf n0 v = defaultValue ty)
    {q : Nat × AH} (hq : h_onew A t ds = some q)
    {pc' : Nat} (hp : pc + 3 = pc') (k : ∀ T', On p l e R s m args below meth c D Z n0 T' q.2 (cells + 1) (slots + n) → Go p e below (T'.setTop (mkF m pc'  Ls (.ref (n0 + q.1) :: st))) G) : Go p e below (T.setTop (mkF m pc Ls st)) G := by
  subst hp
  cases hq
  obtain ⟨locs, X, N, RA⟩ := X
  obtain ⟨vm', cC, kC, h1, h2, h3, h4, X', stp⟩ := X.newCold K.1 K.2.2.1 (mvT K.2.1 (wd K w1)) (mvT K.2.1 (wd K w2)) (mvT K.2.1 (wd K w3)) (g := mkF m pc Ls st) rfl (dc K hd) hc hs
  have hZ := K.2.1
  rw [hZ.alike.findClass] at h1
  obtain ⟨kZ, z1, -⟩ := Vm.findClass_spec h1
  obtain ⟨k', z2, z3⟩ := hZ.alike.2.2 _ _ z1
  cases h2.symm.trans z2
  have ei : kC.instanceTypes = kZ.instanceTypes := by rw [z3]
  have hN : (T.heap.push { cls := cC, slots := kC.instanceTypes.map defaultValue, vm := .none })[T.heap.size]? = some { cls := cC, slots := kC.instanceTypes.map defaultValue, vm := .none } := by simp
  have hsz := RA.1
  refine go stp ?_
  rw [hsz]
  refine k _ ⟨locs, X', N, ?_⟩
  show Rep D Z n0 (T.heap.push _) _
  refine RA.push ⟨fun z => absurd ht (by omega), fun _ => ⟨⟨_, kZ, hN, h1, z1, rfl, fun _ => by simp [ei]⟩, fun j O f d v e1 e2 => ?_⟩⟩
  rw [List.getElem?_map, Option.map_eq_some_iff] at e2
  obtain ⟨v0, e2, rfl⟩ := e2
  obtain ⟨ty, p1, p2, p3⟩ := hds j O f d v0 e1 e2
  obtain ⟨c1, k1, cf, kf, i, f', a1, a2, a3, a4, a5, a6, -⟩ := p2.spec
  cases h1.symm.trans a1
  cases z1.symm.trans a2
  exact ⟨_, cf, kf, i, f', hN, a3, a4, by simp, rfl, a5, by simp [ei, a6, (State.fieldFound?_type a3 p1).2, p3]⟩
theorem newa (K : Cx p l e R s m meth c Z a0 W own nm bytes ml rt) (X : On p l e R s m args below meth c D Z n0 T A cells slots) {i1 t cap : Nat} {at' : ArrayType} {n : Int32} {dv : Value} (w1 : W[i1]? = some (.arrayClass (newarray.typeOf at'))) (hd : decode bytes pc = .ok (.newarray at', 2))
    (hb : cap * 8 ≤ 536870912) (hc : cells + 1 ≤ R.cells) (hs : slots + cap ≤ R.slots) (ht : t < 10) (hty : newarray.typeOf at' = aty t) (hdv : lf n0 dv = defaultValue (aty t)) {q : Nat × AH} (hq : h_anew A t cap n dv = some q)
    {pc' : Nat} (hp : pc + 2 = pc') (k : ∀ T', On p l e R s m args below meth c D Z n0 T' q.2 (cells + 1) (slots + cap) → Go p e below (T'.setTop (mkF m pc'  Ls (.ref (n0 + q.1) :: st))) G) : Go p e below (T.setTop (mkF m pc Ls (.int n :: st))) G := by
  subst hp
  unfold h_anew at hq
  split at hq
  · cases hq
  rename_i hn
  cases hq
  have hn1 : ¬ n < 0 := fun z => hn (Or.inl z)
  have hn2 : n.toNatClampNeg ≤ cap := Nat.le_of_not_lt fun z => hn (Or.inr z)
  have hn3 : n.toNatClampNeg < 2 ^ 31 := (back32 hn1).2
  obtain ⟨locs, X, N, RA⟩ := X
  have hZ := K.2.1
  have hcb : componentBytes (newarray.typeOf at') ≤ 8 := by cases at' <;> decide
  obtain ⟨cA, kA, comp, h1, h2, h3, X', stp⟩ := X.newarrayPrim K.1 (mvA hZ (wd K w1)) (g := mkF m pc Ls (.int n :: st)) rfl (dc K hd) rfl hn1 (Nat.le_trans (Nat.mul_le_mul hn2 hcb) hb) hc (by omega)
  rw [hZ.alike.findClass] at h1
  obtain ⟨kZ, z1, -⟩ := Vm.findClass_spec h1
  obtain ⟨k', z2, z3⟩ := hZ.alike.2.2 _ _ z1
  cases h2.symm.trans z2
  refine go stp ?_
  rw [RA.1]
  refine k _ ⟨locs, X'.more (Nat.le_refl _) (by omega), N, ?_⟩
  show Rep D Z n0 (T.heap.push _) _
  refine RA.push ⟨fun _ => ⟨_, ⟨by simp; rfl, ⟨by simp, kZ, z1, comp, by rw [← hty, ← h3, z3]⟩, by simp⟩, ?_, by simpa using hn3, fun v hv => ?_⟩, fun z => absurd ht (by omega)⟩
  · simp [hty, hdv]
  · rw [List.map_replicate] at hv
    rw [List.eq_of_mem_replicate hv, hdv]; cases aty t <;> rfl
/-! arrays -/
theorem h_alen' (K : Cx p l e R s m meth c Z a0 W own nm bytes ml rt) (X : On p l e R s m args below meth c D Z n0 T A cells slots) {t a : Nat} {n : Int32} (ht : t < 10) (hg : h_alen A t a = some n) (hd : decode bytes pc = .ok (.arraylength, 1))
    {pc' : Nat} (hp : pc + 1 = pc') (k : Go p e below (T.setTop (mkF m pc'  Ls (.int n :: st))) G) : Go p e below (T.setTop (mkF m pc Ls (.ref (n0 + a) :: st))) G := by
  subst hp
  obtain ⟨locs, X, N, RA⟩ := X
  unfold h_alen at hg
  split at hg
  · rename_i t' vs e
    split at hg
    · rename_i q; subst q
      cases hg
      obtain ⟨cl, h1, h2, -⟩ := RA.arr ht e
      have : cl.slots.size = vs.length := by rw [← Array.length_toList, h2]; simp
      rw [← this] at k
      exact go (X.arraylength K.1 h1.1 (State.isArrayOf_alike K.2.1.alike h1.2.1) (g := mkF m pc Ls (.ref (n0 + a) :: st)) rfl rfl (dc K hd)) k
    · cases hg
  · cases hg
theorem ald0 (K : Cx p l e R s m meth c Z a0 W own nm bytes ml rt) (X : On p l e R s m args below meth c D Z n0 T A cells slots) {a : Nat} {j : Int32} {v : Value} (hg : h_aget A 0 a j = some v) (hd : decode bytes pc = .ok (.iaload, 1))
    {pc' : Nat} (hp : pc + 1 = pc') (k : Go p e below (T.setTop (mkF m pc'  Ls (lf n0 v :: st))) G) : Go p e below (T.setTop (mkF m pc Ls (.int j :: .ref (n0 + a) :: st))) G := by
  subst hp
  obtain ⟨locs, X, N, RA⟩ := X
  obtain ⟨cl, h1, h2, h3⟩ := RA.at (by decide) hg
  exact go (X.iaload K.1 h1.1 (State.isArrayOf_alike K.2.1.alike h1.2.1) h1.2.2 h2 h3 (g := mkF m pc Ls (.int j :: .ref (n0 + a) :: st)) rfl rfl (dc K hd)) k
theorem ald1 (K : Cx p l e R s m meth c Z a0 W own nm bytes ml rt) (X : On p l e R s m args below meth c D Z n0 T A cells slots) {a : Nat} {j : Int32} {v : Value} (hg : h_aget A 1 a j = some v) (hd : decode bytes pc = .ok (.caload, 1))
    {pc' : Nat} (hp : pc + 1 = pc') (k : Go p e below (T.setTop (mkF m pc'  Ls (lf n0 v :: st))) G) : Go p e below (T.setTop (mkF m pc Ls (.int j :: .ref (n0 + a) :: st))) G := by
  subst hp
  obtain ⟨locs, X, N, RA⟩ := X
  obtain ⟨cl, h1, h2, h3⟩ := RA.at (by decide) hg
  exact go (X.caload K.1 h1.1 (State.isArrayOf_alike K.2.1.alike h1.2.1) h1.2.2 h2 h3 (g := mkF m pc Ls (.int j :: .ref (n0 + a) :: st)) rfl rfl (dc K hd)) k
theorem ald2 (K : Cx p l e R s m meth c Z a0 W own nm bytes ml rt) (X : On p l e R s m args below meth c D Z n0 T A cells slots) {a : Nat} {j : Int32} {v : Value} (hg : h_aget A 2 a j = some v) (hd : decode bytes pc = .ok (.baload, 1))
    {pc' : Nat} (hp : pc + 1 = pc') (k : Go p e below (T.setTop (mkF m pc'  Ls (lf n0 v :: st))) G) : Go p e below (T.setTop (mkF m pc Ls (.int j :: .ref (n0 + a) :: st))) G := by
  subst hp
  obtain ⟨locs, X, N, RA⟩ := X
  obtain ⟨cl, h1, h2, h3⟩ := RA.at (by decide) hg
  exact go (X.baloadBytes K.1 h1.1 (State.isArrayOf_alike K.2.1.alike h1.2.1) h1.2.2 h2 h3 (g := mkF m pc Ls (.int j :: .ref (n0 + a) :: st)) rfl rfl (dc K hd)) k
theorem ald3 (K : Cx p l e R s m meth c Z a0 W own nm bytes ml rt) (X : On p l e R s m args below meth c D Z n0 T A cells slots) {a : Nat} {j : Int32} {v : Value} (hg : h_aget A 3 a j = some v) (hd : decode bytes pc = .ok (.laload, 1))
    {pc' : Nat} (hp : pc + 1 = pc') (k : Go p e below (T.setTop (mkF m pc'  Ls (lf n0 v :: st))) G) : Go p e below (T.setTop (mkF m pc Ls (.int j :: .ref (n0 + a) :: st))) G := by
  subst hp
  obtain ⟨locs, X, N, RA⟩ := X
  obtain ⟨cl, h1, h2, h3⟩ := RA.at (by decide) hg
  exact go (X.laload K.1 h1.1 (State.isArrayOf_alike K.2.1.alike h1.2.1) h1.2.2 h2 h3 (g := mkF m pc Ls (.int j :: .ref (n0 + a) :: st)) rfl rfl (dc K hd)) k
theorem ald4 (K : Cx p l e R s m meth c Z a0 W own nm bytes ml rt) (X : On p l e R s m args below meth c D Z n0 T A cells slots) {a : Nat} {j : Int32} {v : Value} (hg : h_aget A 4 a j = some v) (hd : decode bytes pc = .ok (.baload, 1))
    {pc' : Nat} (hp : pc + 1 = pc') (k : Go p e below (T.setTop (mkF m pc'  Ls (lf n0 v :: st))) G) : Go p e below (T.setTop (mkF m pc Ls (.int j :: .ref (n0 + a) :: st))) G := by
  subst hp
  obtain ⟨locs, X, N, RA⟩ := X
  obtain ⟨cl, h1, h2, h3⟩ := RA.at (by decide) hg
  exact go (X.baloadBooleans K.1 h1.1 (State.isArrayOf_alike K.2.1.alike h1.2.1) h1.2.2 h2 h3 (g := mkF m pc Ls (.int j :: .ref (n0 + a) :: st)) rfl rfl (dc K hd)) k
theorem ld0 (K : Cx p l e R s m meth c Z a0 W own nm bytes ml rt) (X : On p l e R s m args below meth c D Z n0 T A cells slots) {a : Nat} {j : Int32} {v : Int32} (hg : asI (h_aget A 0 a j) = some v) (hd : decode bytes pc = .ok (.iaload, 1))
    {pc' : Nat} (hp : pc + 1 = pc') (k : Go p e below (T.setTop (mkF m pc' Ls (.int v :: st))) G) : Go p e below (T.setTop (mkF m pc Ls (.int j :: .ref (n0 + a) :: st))) G := ald0 K X (asI_s hg) hd hp k
theorem ld1 (K : Cx p l e R s m meth c Z a0 W own nm bytes ml rt) (X : On p l e R s m args below meth c D Z n0 T A cells slots) {a : Nat} {j : Int32} {v : Int32} (hg : asI (h_aget A 1 a j) = some v) (hd : decode bytes pc = .ok (.caload, 1))
    {pc' : Nat} (hp : pc + 1 = pc') (k : Go p e below (T.setTop (mkF m pc' Ls (.int v :: st))) G) : Go p e below (T.setTop (mkF m pc Ls (.int j :: .ref (n0 + a) :: st))) G := ald1 K X (asI_s hg) hd hp k
theorem ld2 (K : Cx p l e R s m meth c Z a0 W own nm bytes ml rt) (X : On p l e R s m args below meth c D Z n0 T A cells slots) {a : Nat} {j : Int32} {v : Int32} (hg : asI (h_aget A 2 a j) = some v) (hd : decode bytes pc = .ok (.baload, 1))
    {pc' : Nat} (hp : pc + 1 = pc') (k : Go p e below (T.setTop (mkF m pc' Ls (.int v :: st))) G) : Go p e below (T.setTop (mkF m pc Ls (.int j :: .ref (n0 + a) :: st))) G := ald2 K X (asI_s hg) hd hp k
theorem ld3 (K : Cx p l e R s m meth c Z a0 W own nm bytes ml rt) (X : On p l e R s m args below meth c D Z n0 T A cells slots) {a : Nat} {j : Int32} {v : Int64} (hg : asJ (h_aget A 3 a j) = some v) (hd : decode bytes pc = .ok (.laload, 1))
    {pc' : Nat} (hp : pc + 1 = pc') (k : Go p e below (T.setTop (mkF m pc' Ls (.long v :: st))) G) : Go p e below (T.setTop (mkF m pc Ls (.int j :: .ref (n0 + a) :: st))) G := ald3 K X (asJ_s hg) hd hp k
theorem ld4 (K : Cx p l e R s m meth c Z a0 W own nm bytes ml rt) (X : On p l e R s m args below meth c D Z n0 T A cells slots) {a : Nat} {j : Int32} {v : Int32} (hg : asI (h_aget A 4 a j) = some v) (hd : decode bytes pc = .ok (.baload, 1))
    {pc' : Nat} (hp : pc + 1 = pc') (k : Go p e below (T.setTop (mkF m pc' Ls (.int v :: st))) G) : Go p e below (T.setTop (mkF m pc Ls (.int j :: .ref (n0 + a) :: st))) G := ald4 K X (asI_s hg) hd hp k
theorem ast0 (K : Cx p l e R s m meth c Z a0 W own nm bytes ml rt) (X : On p l e R s m args below meth c D Z n0 T A cells slots) {a : Nat} {j x : Int32} (hp : h_aset A 0 a j (.int x) = some A') (hd : decode bytes pc = .ok (.iastore, 1))
    {pc' : Nat} (hp : pc + 1 = pc') (k : ∀ T', On p l e R s m args below meth c D Z n0 T' A' cells slots → Go p e below (T'.setTop (mkF m pc'  Ls st)) G) : Go p e below (T.setTop (mkF m pc Ls (.int x :: .int j :: .ref (n0 + a) :: st))) G := by
  subst hp
  obtain ⟨locs, X, N, RA⟩ := X
  obtain ⟨cl, h1, h2⟩ := RA.into (by decide) hp
  obtain ⟨T', h', X', e', W', stp⟩ := stI X K.1 K.2.1 rfl h1 h2 (g := mkF m pc Ls (.int x :: .int j :: .ref (n0 + a) :: st)) rfl rfl (dc K hd)
  exact go stp (k T' ⟨_, X', Fr.snoc X' N (Nat.le_add_right _ _), by rw [e']; exact RA.wrA (by decide) hp rfl W'⟩)
theorem ast1 (K : Cx p l e R s m meth c Z a0 W own nm bytes ml rt) (X : On p l e R s m args below meth c D Z n0 T A cells slots) {a : Nat} {j x : Int32} (hp : h_aset A 1 a j (.int (nar .char x)) = some A') (hd : decode bytes pc = .ok (.castore, 1))
    {pc' : Nat} (hp : pc + 1 = pc') (k : ∀ T', On p l e R s m args below meth c D Z n0 T' A' cells slots → Go p e below (T'.setTop (mkF m pc'  Ls st)) G) : Go p e below (T.setTop (mkF m pc Ls (.int x :: .int j :: .ref (n0 + a) :: st))) G := by
  subst hp
  obtain ⟨locs, X, N, RA⟩ := X
  obtain ⟨cl, h1, h2⟩ := RA.into (by decide) hp
  obtain ⟨T', h', X', e', W', stp⟩ := stC X K.1 K.2.1 rfl h1 h2 (g := mkF m pc Ls (.int x :: .int j :: .ref (n0 + a) :: st)) rfl rfl (dc K hd)
  exact go stp (k T' ⟨_, X', Fr.snoc X' N (Nat.le_add_right _ _), by rw [e']; exact RA.wrA (by decide) hp (fits_nar_char _) W'⟩)
theorem ast2 (K : Cx p l e R s m meth c Z a0 W own nm bytes ml rt) (X : On p l e R s m args below meth c D Z n0 T A cells slots) {a : Nat} {j x : Int32} (hp : h_aset A 2 a j (.int (nar .byte x)) = some A') (hd : decode bytes pc = .ok (.bastore, 1))
    {pc' : Nat} (hp : pc + 1 = pc') (k : ∀ T', On p l e R s m args below meth c D Z n0 T' A' cells slots → Go p e below (T'.setTop (mkF m pc'  Ls st)) G) : Go p e below (T.setTop (mkF m pc Ls (.int x :: .int j :: .ref (n0 + a) :: st))) G := by
  subst hp
  obtain ⟨locs, X, N, RA⟩ := X
  obtain ⟨cl, h1, h2⟩ := RA.into (by decide) hp
  obtain ⟨T', h', X', e', W', stp⟩ := stB X K.1 K.2.1 rfl h1 h2 (g := mkF m pc Ls (.int x :: .int j :: .ref (n0 + a) :: st)) rfl rfl (dc K hd)
  exact go stp (k T' ⟨_, X', Fr.snoc X' N (Nat.le_add_right _ _), by rw [e']; exact RA.wrA (by decide) hp (fits_nar_byte _) W'⟩)
theorem ast3 (K : Cx p l e R s m meth c Z a0 W own nm bytes ml rt) (X : On p l e R s m args below meth c D Z n0 T A cells slots) {a : Nat} {j : Int32} {x : Int64} (hp : h_aset A 3 a j (.long x) = some A') (hd : decode bytes pc = .ok (.lastore, 1))
    {pc' : Nat} (hp : pc + 1 = pc') (k : ∀ T', On p l e R s m args below meth c D Z n0 T' A' cells slots → Go p e below (T'.setTop (mkF m pc'  Ls st)) G) : Go p e below (T.setTop (mkF m pc Ls (.long x :: .int j :: .ref (n0 + a) :: st))) G := by
  subst hp
  obtain ⟨locs, X, N, RA⟩ := X
  obtain ⟨cl, h1, h2⟩ := RA.into (by decide) hp
  obtain ⟨T', h', X', e', W', stp⟩ := stJ X K.1 K.2.1 rfl h1 h2 (g := mkF m pc Ls (.long x :: .int j :: .ref (n0 + a) :: st)) rfl rfl (dc K hd)
  exact go stp (k T' ⟨_, X', Fr.snoc X' N (Nat.le_add_right _ _), by rw [e']; exact RA.wrA (by decide) hp rfl W'⟩)
theorem ast4 (K : Cx p l e R s m meth c Z a0 W own nm bytes ml rt) (X : On p l e R s m args below meth c D Z n0 T A cells slots) {a : Nat} {j x : Int32} (hp : h_aset A 4 a j (.int (nar .boolean x)) = some A') (hd : decode bytes pc = .ok (.bastore, 1))
    {pc' : Nat} (hp : pc + 1 = pc') (k : ∀ T', On p l e R s m args below meth c D Z n0 T' A' cells slots → Go p e below (T'.setTop (mkF m pc'  Ls st)) G) : Go p e below (T.setTop (mkF m pc Ls (.int x :: .int j :: .ref (n0 + a) :: st))) G := by
  subst hp
  obtain ⟨locs, X, N, RA⟩ := X
  obtain ⟨cl, h1, h2⟩ := RA.into (by decide) hp
  obtain ⟨T', h', X', e', W', stp⟩ := stZ X K.1 K.2.1 rfl h1 h2 (g := mkF m pc Ls (.int x :: .int j :: .ref (n0 + a) :: st)) rfl rfl (dc K hd)
  exact go stp (k T' ⟨_, X', Fr.snoc X' N (Nat.le_add_right _ _), by rw [e']; exact RA.wrA (by decide) hp (fits_nar_bool _) W'⟩)
/-! calls -/
theorem obj (K : Cx p l e R s m meth c Z a0 W own nm bytes ml rt) (X : On p l e R s m args below meth c D Z n0 T A cells slots) {i1 i2 i3 idx w : Nat} {a : Addr} (w1 : W[i1]? = some (.methodLink own idx Lib.objectInit)) (w2 : W[i2]? = some (.instanceMethod Lib.objectInit)) (w3 : W[i3]? = some (.code Lib.objectInit ⟨#[0xb1]⟩ 1 none))
    (hd : decode bytes pc = .ok (.invokespecial idx, 3)) (hz : Ls.size = ml) (hf : 1 ≤ R.frames) (hw : (st.map fun v => v.category).sum ≤ w) (hl : w + 12 ≤ R.locals)
    {pc' : Nat} (hp : pc + 3 = pc') (k : ∀ T', On p l e R s m args below meth c D Z n0 T' A cells slots → Go p e below (T'.setTop (mkF m pc'  Ls st)) G) : Go p e below (T.setTop (mkF m pc Ls (.ref a :: st))) G := by
  subst hp
  obtain ⟨locs, X, N, RA⟩ := X
  obtain ⟨T', X', e', stp⟩ := initO X K.1 K.2.1 K.2.2.1 (wd K w1) (wd K w2) (wd K w3) rfl (g := mkF m pc Ls (.ref a :: st)) rfl (hz.trans K.2.2.2.2.1.symm) rfl (dc K hd) hf (W := w) (by simpa [JFrame.monitorRoom] using hw) hl
  exact go stp (k T' ⟨locs, X', N, by rw [e']; exact RA⟩)
theorem calls (K : Cx p l e R s m meth c Z a0 W own nm bytes ml rt) (X : On p l e R s m args below meth c D Z n0 T A cells slots) {i1 i2 i3 i4 idx w : Nat} {y : MethodName} {by' : ByteArray} {ml' : Nat} {rt' : Option FieldType} {rm : Room} {as : List Value} {r : Option Value} {S : List Value} {ps : List FieldType}
    (w1 : W[i1]? = some (.methodLink own idx y)) (w2 : W[i2]? = some (.static y)) (w3 : W[i3]? = some (.initialized y.cls)) (w4 : W[i4]? = some (.code y by' ml' rt')) (hy : y.cls ≠ "java/lang/invoke/MethodHandle" ∧ y.cls ≠ "java/lang/invoke/VarHandle")
    (M : Met l D Z n0 y by' ml' rt' rm as A r A') (hpd : parseMethodDescriptor y.desc = some ⟨ps, rt'⟩) (hlen : as.length = ps.length) (hd : decode bytes pc = .ok (.invokestatic idx, 3)) (hz : Ls.size = ml) (hS : S = as.reverse ++ st)
    (hf : rm.frames + 1 ≤ R.frames) (hw : (st.map fun v => v.category).sum ≤ w) (hl : w + (ml' + 11) + rm.locals ≤ R.locals) (hc : cells + rm.cells ≤ R.cells) (hs : slots + rm.slots ≤ R.slots)
    {pc' kc ks : Nat} {S' : List Value} (ec : cells + rm.cells = kc) (es : slots + rm.slots = ks) (hS' : r.toList ++ st = S') (hp : pc + 3 = pc') (k : ∀ T', On p l e R s m args below meth c D Z n0 T' A' kc ks → Go p e below (T'.setTop (mkF m pc' Ls S')) G) : Go p e below (T.setTop (mkF m pc Ls S)) G := by
  subst hp ec es hS'
  obtain ⟨locs, X, N, RA⟩ := X
  obtain ⟨v, vm, ⟨T', L', k', n'⟩, -, X', ⟨Lc, hQ, q1, q2, q3⟩, stp⟩ := Jvm.LawKit.callS X K.1 K.2.2.1 (mvT K.2.1 (wd K w1)) (mvT K.2.1 (wd K w2)) (mvT K.2.1 (wd K w3)) (mvT K.2.1 (wd K w4)) hy
    (backOf (W := w) (M [] T.heap RA) K.2.1 (wd K w4) (wd K w3) hf hl) (g := mkF m pc Ls S) rfl (hz.trans K.2.2.2.2.1.symm) (argsL := as) (rest := st) (lenOf hpd hlen) hS (by simpa [JFrame.monitorRoom] using hw) (dc K hd) (fun _ _ => ⟨rfl, rfl, hc, hs⟩)
  dsimp only [Pt.U, Pt.locs, Pt.cells, Pt.slots] at X' q1 q2 q3 hQ stp
  subst q1 q2 q3
  obtain ⟨rfl, N', RA'⟩ := hQ
  exact go stp (k T' ⟨_, X', Fr.app N N', RA'⟩)
theorem calli (K : Cx p l e R s m meth c Z a0 W own nm bytes ml rt) (X : On p l e R s m args below meth c D Z n0 T A cells slots) {i1 i2 i3 i4 idx w : Nat} {y : MethodName} {by' : ByteArray} {ml' : Nat} {rm : Room} {a : Addr} {as : List Value} {S : List Value} {ps : List FieldType}
    (w1 : W[i1]? = some (.methodLink own idx y)) (w2 : W[i2]? = some (.instanceMethod y)) (w3 : W[i3]? = some (.initialized y.cls)) (w4 : W[i4]? = some (.code y by' ml' none)) (hy1 : y.name = "<init>") (hy : y.cls ≠ "java/lang/invoke/MethodHandle" ∧ y.cls ≠ "java/lang/invoke/VarHandle")
    (M : Met l D Z n0 y by' ml' none rm (.ref a :: as) A none A') (hpd : parseMethodDescriptor y.desc = some ⟨ps, none⟩) (hlen : as.length = ps.length) (hd : decode bytes pc = .ok (.invokespecial idx, 3)) (hz : Ls.size = ml) (hS : S = as.reverse ++ .ref a :: st)
    (hf : rm.frames + 1 ≤ R.frames) (hw : (st.map fun v => v.category).sum ≤ w) (hl : w + (ml' + 11) + rm.locals ≤ R.locals) (hc : cells + rm.cells ≤ R.cells) (hs : slots + rm.slots ≤ R.slots)
    {pc' kc ks : Nat} (ec : cells + rm.cells = kc) (es : slots + rm.slots = ks) (hp : pc + 3 = pc') (k : ∀ T', On p l e R s m args below meth c D Z n0 T' A' kc ks → Go p e below (T'.setTop (mkF m pc'  Ls st)) G) : Go p e below (T.setTop (mkF m pc Ls S)) G := by
  subst hp ec es
  obtain ⟨locs, X, N, RA⟩ := X
  obtain ⟨v, vm, ⟨T', L', k', n'⟩, -, X', ⟨Lc, hQ, q1, q2, q3⟩, stp⟩ := X.specialBack K.1 hy1 K.2.2.1 (mvT K.2.1 (wd K w1)) (mvT K.2.1 (wd K w2)) (mvT K.2.1 (wd K w4)) hy
    (backOf (W := w) (M [] T.heap RA) K.2.1 (wd K w4) (wd K w3) hf hl) (g := mkF m pc Ls S) rfl (hz.trans K.2.2.2.2.1.symm) (Steps.refl _) (a := a) (argsL := as) (rest := st) (lenOf hpd hlen) hS (by simpa [JFrame.monitorRoom] using hw) (dc K hd) (fun _ _ => ⟨rfl, rfl, hc, hs⟩)
  dsimp only [Pt.U, Pt.locs, Pt.cells, Pt.slots] at X' q1 q2 q3 hQ stp
  subst q1 q2 q3
  obtain ⟨rfl, N', RA'⟩ := hQ
  exact go (fun _ q => stp.trans q) (k T' ⟨_, X', Fr.app N N', RA'⟩)
theorem callv (K : Cx p l e R s m meth c Z a0 W own nm bytes ml rt) (X : On p l e R s m args below meth c D Z n0 T A cells slots) {i1 i2 i3 i4 i5 i6 idx w t a : Nat} {u : Unit} {y : MethodName} {by' : ByteArray} {ml' : Nat} {rt' : Option FieldType} {rm : Room} {as : List Value} {r : Option Value} {S : List Value} {ps : List FieldType}
    (w1 : W[i1]? = some (.methodLink own idx y)) (w2 : W[i2]? = some (.declares y)) (w5 : W[i5]? = some (.selects (D t).1 y y)) (w6 : W[i6]? = some (.instanceMethod y)) (w3 : W[i3]? = some (.initialized y.cls)) (w4 : W[i4]? = some (.code y by' ml' rt')) (hy : y.cls ≠ "java/lang/invoke/MethodHandle" ∧ y.cls ≠ "java/lang/invoke/VarHandle")
    (ht : 10 ≤ t) (hA : h_isA A t a = some u) (M : Met l D Z n0 y by' ml' rt' rm (.ref (n0 + a) :: as) A r A') (hpd : parseMethodDescriptor y.desc = some ⟨ps, rt'⟩) (hlen : as.length = ps.length) (hd : decode bytes pc = .ok (.invokevirtual idx, 3)) (hz : Ls.size = ml) (hS : S = as.reverse ++ .ref (n0 + a) :: st)
    (hf : rm.frames + 1 ≤ R.frames) (hw : (st.map fun v => v.category).sum ≤ w) (hl : w + (ml' + 11) + rm.locals ≤ R.locals) (hc : cells + rm.cells ≤ R.cells) (hs : slots + rm.slots ≤ R.slots)
    {pc' kc ks : Nat} {S' : List Value} (ec : cells + rm.cells = kc) (es : slots + rm.slots = ks) (hS' : r.toList ++ st = S') (hp : pc + 3 = pc') (k : ∀ T', On p l e R s m args below meth c D Z n0 T' A' kc ks → Go p e below (T'.setTop (mkF m pc' Ls S')) G) : Go p e below (T.setTop (mkF m pc Ls S)) G := by
  subst hp ec es hS'
  obtain ⟨locs, X, N, RA⟩ := X
  obtain ⟨vs, hA⟩ := isA_s hA
  obtain ⟨cq, kq, q1, q2, q3⟩ := isOf K.2.1 rfl (RA.exa ht hA)
  obtain ⟨v, vm, ⟨T', L', k', n'⟩, -, X', ⟨Lc, hQ, q1, q2, q3⟩, stp⟩ := X.virtualBack K.1 (y := y) (z := y) K.2.2.1 (mvT K.2.1 (wd K w1)) (mvT K.2.1 (wd K w2)) (notFace_of_selects (args := #[]) (mvT K.2.1 (wd K w5))) (mvT K.2.1 (wd K w5)) (mvT K.2.1 (wd K w6)) hy
    (backOf (W := w) (M [] T.heap RA) K.2.1 (wd K w4) (wd K w3) hf hl) q1 q3 (g := mkF m pc Ls S) rfl (hz.trans K.2.2.2.2.1.symm) (Steps.refl _) (argsL := as) (rest := st) (lenOf hpd hlen) hS (by simpa [JFrame.monitorRoom] using hw) (dc K hd) (fun _ _ => ⟨rfl, rfl, hc, hs⟩)
  dsimp only [Pt.U, Pt.locs, Pt.cells, Pt.slots] at X' q1 q2 q3 hQ stp
  subst q1 q2 q3
  obtain ⟨rfl, N', RA'⟩ := hQ
  exact go (fun _ q => stp.trans q) (k T' ⟨_, X', Fr.app N N', RA'⟩)
theorem callp (K : Cx p l e R s m meth c Z a0 W own nm bytes ml rt) (X : On p l e R s m args below meth c D Z n0 T A cells slots) {i1 i2 i3 i4 i5 i6 idx w t a kk : Nat} {u : Unit} {y : MethodName} {by' : ByteArray} {ml' : Nat} {rt' : Option FieldType} {rm : Room} {as : List Value} {r : Option Value} {S : List Value} {ps : List FieldType}
    (w1 : W[i1]? = some (.methodLink own idx y)) (w2 : W[i2]? = some (.privateMethod y)) (w5 : W[i5]? = some (.instantiable y.cls kk)) (w6 : W[i6]? = some (.instanceMethod y)) (w3 : W[i3]? = some (.initialized y.cls)) (w4 : W[i4]? = some (.code y by' ml' rt')) (hy : y.cls ≠ "java/lang/invoke/MethodHandle" ∧ y.cls ≠ "java/lang/invoke/VarHandle")
    (ht : 10 ≤ t) (hA : h_isA A t a = some u) (M : Met l D Z n0 y by' ml' rt' rm (.ref (n0 + a) :: as) A r A') (hpd : parseMethodDescriptor y.desc = some ⟨ps, rt'⟩) (hlen : as.length = ps.length) (hd : decode bytes pc = .ok (.invokevirtual idx, 3)) (hz : Ls.size = ml) (hS : S = as.reverse ++ .ref (n0 + a) :: st)
    (hf : rm.frames + 1 ≤ R.frames) (hw : (st.map fun v => v.category).sum ≤ w) (hl : w + (ml' + 11) + rm.locals ≤ R.locals) (hc : cells + rm.cells ≤ R.cells) (hs : slots + rm.slots ≤ R.slots)
    {pc' kc ks : Nat} {S' : List Value} (ec : cells + rm.cells = kc) (es : slots + rm.slots = ks) (hS' : r.toList ++ st = S') (hp : pc + 3 = pc') (k : ∀ T', On p l e R s m args below meth c D Z n0 T' A' kc ks → Go p e below (T'.setTop (mkF m pc' Ls S')) G) : Go p e below (T.setTop (mkF m pc Ls S)) G := by
  subst hp ec es hS'
  obtain ⟨locs, X, N, RA⟩ := X
  obtain ⟨vs, hA⟩ := isA_s hA
  obtain ⟨cq, q1, q2⟩ := (RA.exa ht hA).cell
  have wi : (Jvm.Cond.instantiable y.cls kk).before #[] s = true := mvT K.2.1 (wd K w5)
  obtain ⟨c0, k0, i1, i2, i3, i4, -⟩ := Cond.instantiable_spec wi
  have hni : k0.isInterface = false := (Bool.or_eq_false_iff.mp i4).1
  have hpr : s.PrivateAt y := Cond.privateMethod_at (mvP K.2.1 (wd K w2) (args := #[]))
  have hin : (Jvm.Cond.instanceMethod y).before args s = true := mvT K.2.1 (wd K w6)
  obtain ⟨v, vm, ⟨T', L', k', n'⟩, -, X', ⟨Lc, hQ, q1, q2, q3⟩, stp⟩ := X.privateBack K.1 (y := y) K.2.2.1 (mvT K.2.1 (wd K w1)) hin (selects_self_of_private i1 i2 hni hpr hin hy) hpr (mvT K.2.1 (wd K w4)) hy
    (backOf (W := w) (M [] T.heap RA) K.2.1 (wd K w4) (wd K w3) hf hl) (g := mkF m pc Ls S) rfl (hz.trans K.2.2.2.2.1.symm) (Steps.refl _) (a := n0 + a) q1 q2 (argsL := as) (rest := st) (lenOf hpd hlen) hS (by simpa [JFrame.monitorRoom] using hw) (dc K hd) (fun _ _ => ⟨rfl, rfl, hc, hs⟩)
  dsimp only [Pt.U, Pt.locs, Pt.cells, Pt.slots] at X' q1 q2 q3 hQ stp
  subst q1 q2 q3
  obtain ⟨rfl, N', RA'⟩ := hQ
  exact go (fun _ q => stp.trans q) (k T' ⟨_, X', Fr.app N N', RA'⟩)
/-! a body by its blocks -/
theorem met {y : MethodName} {as : List Value} {r : Option Value} {L0 : Array Slot} (hp : plainFor y = true) (hw : ∀ d ∈ W, d.before a0 Z = true) (hn : y.cls = own) (hnn : y.name = nm) (hef : ∀ m, entryFrame m as.toArray ml = mkF m 0 L0 [])
    (hb : ∀ (p : Program) (e : Env) (s : State) (m : MethodId) (below : List Frame) (meth : Method) (c : Code) (T : State), Cx p l e R s m meth c Z a0 W own nm bytes ml rt → On p l e R s m as.toArray below meth c D Z n0 T A 0 0 → Go p e below (T.setTop (mkF m 0 L0 [])) (Fini D Z n0 s R r A')) :
    Met l D Z n0 y bytes ml rt R as A r A' := by
  intro ws h0 RA
  refine MetFree.of_bodySF hp hisR ?_
  intro p e s m args below meth c s₁ Bd hml0 hP hK
  obtain ⟨rfl, hZ, hh⟩ := hP
  have hown : s.vm.findClass own = some m.cls := hn ▸ findClass_of_methodNamed Bd.named
  have hnm := (name_of_methodNamed Bd.named Bd.method).1
  have X0 : Stand p l e R s m as.toArray below meth c s₁ [] 0 0 := Stand.of_body Bd
  have e0 : s₁.heap = h0 := by rw [← hh, Bd.state]; rfl
  have := hb p e s m below meth c s₁ ⟨Bd.exec, hZ, hown, Bd.bytes, hml0, Bd.returns, Bd.notSynchronized, hnm.trans hnn, hw⟩ ⟨[], X0, Fr.nil n0, by rw [e0]; exact RA⟩
  obtain ⟨t, o, h1, h2, h3, h4⟩ := this
  exact ⟨t, o, castTop (hef m) h1, h2, h3, h4⟩
end Walk
end Jvm.OwnKit
namespace Jvm.OwnKit
open Sem ClassFile Op Lib Jvm.Stand Jvm.Free Jvm.LawKit Jvm.RoadKit
section Instr
variable {p : Program} {l : Launch} {e : Env} {R : Room} {s : State} {m : MethodId} {args : Array Value} {below : List Frame} {meth : Method} {c : Code} {Z : State} {a0 : Array Value} {W : List Jvm.Cond} {own nm : String} {bytes : ByteArray} {ml : Nat} {rt : Option FieldType} {D : Dic} {n0 : Nat} {T : State} {A A' : AH} {cells slots : Nat} {G : Outcome → State → Prop} {pc : Nat} {Ls : Array Slot} {st : List Value}
theorem i_iadd (K : Cx p l e R s m meth c Z a0 W own nm bytes ml rt) (X : On p l e R s m args below meth c D Z n0 T A cells slots) {x y : Int32} {pc' : Nat} (hd : decode bytes pc = .ok (.iadd, 1)) (hp : pc + 1 = pc')
    (k : Go p e below (T.setTop (mkF m pc' Ls (.int (x + y) :: st))) G) : Go p e below (T.setTop (mkF m pc Ls (.int y :: .int x :: st))) G := by
  subst hp; exact go (fun _ => XS.iadd X.here K.1 (g := mkF m pc Ls (.int y :: .int x :: st)) rfl (dc K hd) rfl) k
theorem i_isub (K : Cx p l e R s m meth c Z a0 W own nm bytes ml rt) (X : On p l e R s m args below meth c D Z n0 T A cells slots) {x y : Int32} {pc' : Nat} (hd : decode bytes pc = .ok (.isub, 1)) (hp : pc + 1 = pc')
    (k : Go p e below (T.setTop (mkF m pc' Ls (.int (x - y) :: st))) G) : Go p e below (T.setTop (mkF m pc Ls (.int y :: .int x :: st))) G := by
  subst hp; exact go (fun _ => XS.isub X.here K.1 (g := mkF m pc Ls (.int y :: .int x :: st)) rfl (dc K hd) rfl) k
theorem i_imul (K : Cx p l e R s m meth c Z a0 W own nm bytes ml rt) (X : On p l e R s m args below meth c D Z n0 T A cells slots) {x y : Int32} {pc' : Nat} (hd : decode bytes pc = .ok (.imul, 1)) (hp : pc + 1 = pc')
    (k : Go p e below (T.setTop (mkF m pc' Ls (.int (x * y) :: st))) G) : Go p e below (T.setTop (mkF m pc Ls (.int y :: .int x :: st))) G := by
  subst hp; exact go (fun _ => XS.imul X.here K.1 (g := mkF m pc Ls (.int y :: .int x :: st)) rfl (dc K hd) rfl) k
theorem i_iand (K : Cx p l e R s m meth c Z a0 W own nm bytes ml rt) (X : On p l e R s m args below meth c D Z n0 T A cells slots) {x y : Int32} {pc' : Nat} (hd : decode bytes pc = .ok (.iand, 1)) (hp : pc + 1 = pc')
    (k : Go p e below (T.setTop (mkF m pc' Ls (.int (x &&& y) :: st))) G) : Go p e below (T.setTop (mkF m pc Ls (.int y :: .int x :: st))) G := by
  subst hp; exact go (fun _ => XS.iand X.here K.1 (g := mkF m pc Ls (.int y :: .int x :: st)) rfl (dc K hd) rfl) k
theorem i_ior (K : Cx p l e R s m meth c Z a0 W own nm bytes ml rt) (X : On p l e R s m args below meth c D Z n0 T A cells slots) {x y : Int32} {pc' : Nat} (hd : decode bytes pc = .ok (.ior, 1)) (hp : pc + 1 = pc')
    (k : Go p e below (T.setTop (mkF m pc' Ls (.int (x ||| y) :: st))) G) : Go p e below (T.setTop (mkF m pc Ls (.int y :: .int x :: st))) G := by
  subst hp; exact go (fun _ => XS.ior X.here K.1 (g := mkF m pc Ls (.int y :: .int x :: st)) rfl (dc K hd) rfl) k
theorem i_ixor (K : Cx p l e R s m meth c Z a0 W own nm bytes ml rt) (X : On p l e R s m args below meth c D Z n0 T A cells slots) {x y : Int32} {pc' : Nat} (hd : decode bytes pc = .ok (.ixor, 1)) (hp : pc + 1 = pc')
    (k : Go p e below (T.setTop (mkF m pc' Ls (.int (x ^^^ y) :: st))) G) : Go p e below (T.setTop (mkF m pc Ls (.int y :: .int x :: st))) G := by
  subst hp; exact go (fun _ => XS.ixor X.here K.1 (g := mkF m pc Ls (.int y :: .int x :: st)) rfl (dc K hd) rfl) k
theorem i_ishl (K : Cx p l e R s m meth c Z a0 W own nm bytes ml rt) (X : On p l e R s m args below meth c D Z n0 T A cells slots) {x y : Int32} {pc' : Nat} (hd : decode bytes pc = .ok (.ishl, 1)) (hp : pc + 1 = pc')
    (k : Go p e below (T.setTop (mkF m pc' Ls (.int (x <<< (y &&& 31)) :: st))) G) : Go p e below (T.setTop (mkF m pc Ls (.int y :: .int x :: st))) G := by
  subst hp; exact go (fun _ => XS.ishl X.here K.1 (g := mkF m pc Ls (.int y :: .int x :: st)) rfl (dc K hd) rfl) k
theorem i_ishr (K : Cx p l e R s m meth c Z a0 W own nm bytes ml rt) (X : On p l e R s m args below meth c D Z n0 T A cells slots) {x y : Int32} {pc' : Nat} (hd : decode bytes pc = .ok (.ishr, 1)) (hp : pc + 1 = pc')
    (k : Go p e below (T.setTop (mkF m pc' Ls (.int (x >>> (y &&& 31)) :: st))) G) : Go p e below (T.setTop (mkF m pc Ls (.int y :: .int x :: st))) G := by
  subst hp; exact go (fun _ => XS.ishr X.here K.1 (g := mkF m pc Ls (.int y :: .int x :: st)) rfl (dc K hd) rfl) k
theorem i_iushr (K : Cx p l e R s m meth c Z a0 W own nm bytes ml rt) (X : On p l e R s m args below meth c D Z n0 T A cells slots) {x y : Int32} {pc' : Nat} (hd : decode bytes pc = .ok (.iushr, 1)) (hp : pc + 1 = pc')
    (k : Go p e below (T.setTop (mkF m pc' Ls (.int ((x.toUInt32 >>> (y &&& 31).toUInt32).toInt32) :: st))) G) : Go p e below (T.setTop (mkF m pc Ls (.int y :: .int x :: st))) G := by
  subst hp; exact go (fun _ => XS.iushr X.here K.1 (g := mkF m pc Ls (.int y :: .int x :: st)) rfl (dc K hd) rfl) k
theorem i_idiv (K : Cx p l e R s m meth c Z a0 W own nm bytes ml rt) (X : On p l e R s m args below meth c D Z n0 T A cells slots) {x y : Int32} {pc' : Nat} (hd : decode bytes pc = .ok (.idiv, 1)) (hp : pc + 1 = pc') (hy : y ≠ 0)
    (k : Go p e below (T.setTop (mkF m pc' Ls (.int (x / y) :: st))) G) : Go p e below (T.setTop (mkF m pc Ls (.int y :: .int x :: st))) G := by
  subst hp; exact go (fun _ => XS.idiv X.here K.1 (g := mkF m pc Ls (.int y :: .int x :: st)) rfl (dc K hd) rfl hy) k
theorem i_irem (K : Cx p l e R s m meth c Z a0 W own nm bytes ml rt) (X : On p l e R s m args below meth c D Z n0 T A cells slots) {x y : Int32} {pc' : Nat} (hd : decode bytes pc = .ok (.irem, 1)) (hp : pc + 1 = pc') (hy : y ≠ 0)
    (k : Go p e below (T.setTop (mkF m pc' Ls (.int (x % y) :: st))) G) : Go p e below (T.setTop (mkF m pc Ls (.int y :: .int x :: st))) G := by
  subst hp; rw [← irem_eq_mod] at k; exact go (fun _ => XS.irem X.here K.1 (g := mkF m pc Ls (.int y :: .int x :: st)) rfl (dc K hd) rfl hy) k
theorem i_ladd (K : Cx p l e R s m meth c Z a0 W own nm bytes ml rt) (X : On p l e R s m args below meth c D Z n0 T A cells slots) {x y : Int64} {pc' : Nat} (hd : decode bytes pc = .ok (.ladd, 1)) (hp : pc + 1 = pc')
    (k : Go p e below (T.setTop (mkF m pc' Ls (.long (x + y) :: st))) G) : Go p e below (T.setTop (mkF m pc Ls (.long y :: .long x :: st))) G := by
  subst hp; exact go (fun _ => XS.ladd X.here K.1 (g := mkF m pc Ls (.long y :: .long x :: st)) rfl (dc K hd) rfl) k
theorem i_lsub (K : Cx p l e R s m meth c Z a0 W own nm bytes ml rt) (X : On p l e R s m args below meth c D Z n0 T A cells slots) {x y : Int64} {pc' : Nat} (hd : decode bytes pc = .ok (.lsub, 1)) (hp : pc + 1 = pc')
    (k : Go p e below (T.setTop (mkF m pc' Ls (.long (x - y) :: st))) G) : Go p e below (T.setTop (mkF m pc Ls (.long y :: .long x :: st))) G := by
  subst hp; exact go (fun _ => XS.lsub X.here K.1 (g := mkF m pc Ls (.long y :: .long x :: st)) rfl (dc K hd) rfl) k
theorem i_lmul (K : Cx p l e R s m meth c Z a0 W own nm bytes ml rt) (X : On p l e R s m args below meth c D Z n0 T A cells slots) {x y : Int64} {pc' : Nat} (hd : decode bytes pc = .ok (.lmul, 1)) (hp : pc + 1 = pc')
    (k : Go p e below (T.setTop (mkF m pc' Ls (.long (x * y) :: st))) G) : Go p e below (T.setTop (mkF m pc Ls (.long y :: .long x :: st))) G := by
  subst hp; exact go (fun _ => XS.lmul X.here K.1 (g := mkF m pc Ls (.long y :: .long x :: st)) rfl (dc K hd) rfl) k
theorem i_land (K : Cx p l e R s m meth c Z a0 W own nm bytes ml rt) (X : On p l e R s m args below meth c D Z n0 T A cells slots) {x y : Int64} {pc' : Nat} (hd : decode bytes pc = .ok (.land, 1)) (hp : pc + 1 = pc')
    (k : Go p e below (T.setTop (mkF m pc' Ls (.long (x &&& y) :: st))) G) : Go p e below (T.setTop (mkF m pc Ls (.long y :: .long x :: st))) G := by
  subst hp; exact go (fun _ => XS.land X.here K.1 (g := mkF m pc Ls (.long y :: .long x :: st)) rfl (dc K hd) rfl) k
theorem i_lor (K : Cx p l e R s m meth c Z a0 W own nm bytes ml rt) (X : On p l e R s m args below meth c D Z n0 T A cells slots) {x y : Int64} {pc' : Nat} (hd : decode bytes pc = .ok (.lor, 1)) (hp : pc + 1 = pc')
    (k : Go p e below (T.setTop (mkF m pc' Ls (.long (x ||| y) :: st))) G) : Go p e below (T.setTop (mkF m pc Ls (.long y :: .long x :: st))) G := by
  subst hp; exact go (fun _ => XS.lor X.here K.1 (g := mkF m pc Ls (.long y :: .long x :: st)) rfl (dc K hd) rfl) k
theorem i_lxor (K : Cx p l e R s m meth c Z a0 W own nm bytes ml rt) (X : On p l e R s m args below meth c D Z n0 T A cells slots) {x y : Int64} {pc' : Nat} (hd : decode bytes pc = .ok (.lxor, 1)) (hp : pc + 1 = pc')
    (k : Go p e below (T.setTop (mkF m pc' Ls (.long (x ^^^ y) :: st))) G) : Go p e below (T.setTop (mkF m pc Ls (.long y :: .long x :: st))) G := by
  subst hp; exact go (fun _ => XS.lxor X.here K.1 (g := mkF m pc Ls (.long y :: .long x :: st)) rfl (dc K hd) rfl) k
theorem i_lshl (K : Cx p l e R s m meth c Z a0 W own nm bytes ml rt) (X : On p l e R s m args below meth c D Z n0 T A cells slots) {x : Int64} {y : Int32} {pc' : Nat} (hd : decode bytes pc = .ok (.lshl, 1)) (hp : pc + 1 = pc')
    (k : Go p e below (T.setTop (mkF m pc' Ls (.long (x <<< (y &&& 0x3f).toInt64) :: st))) G) : Go p e below (T.setTop (mkF m pc Ls (.int y :: .long x :: st))) G := by
  subst hp; exact go (fun _ => XS.lshl X.here K.1 (g := mkF m pc Ls (.int y :: .long x :: st)) rfl (dc K hd) rfl) k
theorem i_lshr (K : Cx p l e R s m meth c Z a0 W own nm bytes ml rt) (X : On p l e R s m args below meth c D Z n0 T A cells slots) {x : Int64} {y : Int32} {pc' : Nat} (hd : decode bytes pc = .ok (.lshr, 1)) (hp : pc + 1 = pc')
    (k : Go p e below (T.setTop (mkF m pc' Ls (.long (x >>> (y &&& 0x3f).toInt64) :: st))) G) : Go p e below (T.setTop (mkF m pc Ls (.int y :: .long x :: st))) G := by
  subst hp; exact go (fun _ => XS.lshr X.here K.1 (g := mkF m pc Ls (.int y :: .long x :: st)) rfl (dc K hd) rfl) k
theorem i_lushr (K : Cx p l e R s m meth c Z a0 W own nm bytes ml rt) (X : On p l e R s m args below meth c D Z n0 T A cells slots) {x : Int64} {y : Int32} {pc' : Nat} (hd : decode bytes pc = .ok (.lushr, 1)) (hp : pc + 1 = pc')
    (k : Go p e below (T.setTop (mkF m pc' Ls (.long ((x.toUInt64 >>> (y &&& 0x3f).toInt64.toUInt64).toInt64) :: st))) G) : Go p e below (T.setTop (mkF m pc Ls (.int y :: .long x :: st))) G := by
  subst hp; exact go (fun _ => XS.lushr X.here K.1 (g := mkF m pc Ls (.int y :: .long x :: st)) rfl (dc K hd) rfl) k
theorem i_ldiv (K : Cx p l e R s m meth c Z a0 W own nm bytes ml rt) (X : On p l e R s m args below meth c D Z n0 T A cells slots) {x y : Int64} {pc' : Nat} (hd : decode bytes pc = .ok (.ldiv, 1)) (hp : pc + 1 = pc') (hy : y ≠ 0)
    (k : Go p e below (T.setTop (mkF m pc' Ls (.long (x / y) :: st))) G) : Go p e below (T.setTop (mkF m pc Ls (.long y :: .long x :: st))) G := by
  subst hp; exact go (fun _ => XS.ldiv X.here K.1 (g := mkF m pc Ls (.long y :: .long x :: st)) rfl (dc K hd) rfl hy) k
theorem i_lrem (K : Cx p l e R s m meth c Z a0 W own nm bytes ml rt) (X : On p l e R s m args below meth c D Z n0 T A cells slots) {x y : Int64} {pc' : Nat} (hd : decode bytes pc = .ok (.lrem, 1)) (hp : pc + 1 = pc') (hy : y ≠ 0)
    (k : Go p e below (T.setTop (mkF m pc' Ls (.long (x - (x / y) * y) :: st))) G) : Go p e below (T.setTop (mkF m pc Ls (.long y :: .long x :: st))) G := by
  subst hp; exact go (fun _ => XS.lrem X.here K.1 (g := mkF m pc Ls (.long y :: .long x :: st)) rfl (dc K hd) rfl hy) k
theorem i_ineg (K : Cx p l e R s m meth c Z a0 W own nm bytes ml rt) (X : On p l e R s m args below meth c D Z n0 T A cells slots) {x : Int32} {pc' : Nat} (hd : decode bytes pc = .ok (.ineg, 1)) (hp : pc + 1 = pc')
    (k : Go p e below (T.setTop (mkF m pc' Ls (.int (-x) :: st))) G) : Go p e below (T.setTop (mkF m pc Ls (.int x :: st))) G := by
  subst hp; exact go (fun _ => XS.ineg X.here K.1 (g := mkF m pc Ls (.int x :: st)) rfl (dc K hd) rfl) k
theorem i_lneg (K : Cx p l e R s m meth c Z a0 W own nm bytes ml rt) (X : On p l e R s m args below meth c D Z n0 T A cells slots) {x : Int64} {pc' : Nat} (hd : decode bytes pc = .ok (.lneg, 1)) (hp : pc + 1 = pc')
    (k : Go p e below (T.setTop (mkF m pc' Ls (.long (-x) :: st))) G) : Go p e below (T.setTop (mkF m pc Ls (.long x :: st))) G := by
  subst hp; exact go (fun _ => XS.lneg X.here K.1 (g := mkF m pc Ls (.long x :: st)) rfl (dc K hd) rfl) k
theorem i_i2b (K : Cx p l e R s m meth c Z a0 W own nm bytes ml rt) (X : On p l e R s m args below meth c D Z n0 T A cells slots) {x : Int32} {pc' : Nat} (hd : decode bytes pc = .ok (.i2b, 1)) (hp : pc + 1 = pc')
    (k : Go p e below (T.setTop (mkF m pc' Ls (.int (x.toInt8.toInt32) :: st))) G) : Go p e below (T.setTop (mkF m pc Ls (.int x :: st))) G := by
  subst hp; exact go (fun _ => XS.i2b X.here K.1 (g := mkF m pc Ls (.int x :: st)) rfl (dc K hd) rfl) k
theorem i_i2c (K : Cx p l e R s m meth c Z a0 W own nm bytes ml rt) (X : On p l e R s m args below meth c D Z n0 T A cells slots) {x : Int32} {pc' : Nat} (hd : decode bytes pc = .ok (.i2c, 1)) (hp : pc + 1 = pc')
    (k : Go p e below (T.setTop (mkF m pc' Ls (.int (x.toUInt32.toUInt16.toUInt32.toInt32) :: st))) G) : Go p e below (T.setTop (mkF m pc Ls (.int x :: st))) G := by
  subst hp; exact go (fun _ => XS.i2c X.here K.1 (g := mkF m pc Ls (.int x :: st)) rfl (dc K hd) rfl) k
theorem i_i2s (K : Cx p l e R s m meth c Z a0 W own nm bytes ml rt) (X : On p l e R s m args below meth c D Z n0 T A cells slots) {x : Int32} {pc' : Nat} (hd : decode bytes pc = .ok (.i2s, 1)) (hp : pc + 1 = pc')
    (k : Go p e below (T.setTop (mkF m pc' Ls (.int (x.toInt16.toInt32) :: st))) G) : Go p e below (T.setTop (mkF m pc Ls (.int x :: st))) G := by
  subst hp; exact go (fun _ => XS.i2s X.here K.1 (g := mkF m pc Ls (.int x :: st)) rfl (dc K hd) rfl) k
theorem i_i2l (K : Cx p l e R s m meth c Z a0 W own nm bytes ml rt) (X : On p l e R s m args below meth c D Z n0 T A cells slots) {x : Int32} {pc' : Nat} (hd : decode bytes pc = .ok (.i2l, 1)) (hp : pc + 1 = pc')
    (k : Go p e below (T.setTop (mkF m pc' Ls (.long (x.toInt64) :: st))) G) : Go p e below (T.setTop (mkF m pc Ls (.int x :: st))) G := by
  subst hp; exact go (fun _ => XS.i2l X.here K.1 (g := mkF m pc Ls (.int x :: st)) rfl (dc K hd) rfl) k
theorem i_l2i (K : Cx p l e R s m meth c Z a0 W own nm bytes ml rt) (X : On p l e R s m args below meth c D Z n0 T A cells slots) {x : Int64} {pc' : Nat} (hd : decode bytes pc = .ok (.l2i, 1)) (hp : pc + 1 = pc')
    (k : Go p e below (T.setTop (mkF m pc' Ls (.int (x.toInt32) :: st))) G) : Go p e below (T.setTop (mkF m pc Ls (.long x :: st))) G := by
  subst hp; exact go (fun _ => XS.l2i X.here K.1 (g := mkF m pc Ls (.long x :: st)) rfl (dc K hd) rfl) k
theorem i_lcmp (K : Cx p l e R s m meth c Z a0 W own nm bytes ml rt) (X : On p l e R s m args below meth c D Z n0 T A cells slots) {x y : Int64} {pc' : Nat} (hd : decode bytes pc = .ok (.lcmp, 1)) (hp : pc + 1 = pc')
    (k : Go p e below (T.setTop (mkF m pc' Ls (.int (lcmpW x y) :: st))) G) : Go p e below (T.setTop (mkF m pc Ls (.long y :: .long x :: st))) G := by
  subst hp; exact go (fun _ => XS.lcmp X.here K.1 (g := mkF m pc Ls (.long y :: .long x :: st)) rfl (dc K hd) rfl) k
theorem i_pop (K : Cx p l e R s m meth c Z a0 W own nm bytes ml rt) (X : On p l e R s m args below meth c D Z n0 T A cells slots) {x : Value} {pc' : Nat} (hd : decode bytes pc = .ok (.pop, 1)) (hp : pc + 1 = pc') (h1 : x.category = 1)
    (k : Go p e below (T.setTop (mkF m pc' Ls (st))) G) : Go p e below (T.setTop (mkF m pc Ls (x :: st))) G := by
  subst hp; exact go (fun _ => XS.pop X.here K.1 (g := mkF m pc Ls (x :: st)) rfl (dc K hd) rfl h1) k
theorem i_dup (K : Cx p l e R s m meth c Z a0 W own nm bytes ml rt) (X : On p l e R s m args below meth c D Z n0 T A cells slots) {x : Value} {pc' : Nat} (hd : decode bytes pc = .ok (.dup, 1)) (hp : pc + 1 = pc') (h1 : x.category = 1)
    (k : Go p e below (T.setTop (mkF m pc' Ls (x :: x :: st))) G) : Go p e below (T.setTop (mkF m pc Ls (x :: st))) G := by
  subst hp; exact go (fun _ => XS.dup X.here K.1 (g := mkF m pc Ls (x :: st)) rfl (dc K hd) rfl h1) k
theorem i_dupX1 (K : Cx p l e R s m meth c Z a0 W own nm bytes ml rt) (X : On p l e R s m args below meth c D Z n0 T A cells slots) {x y : Value} {pc' : Nat} (hd : decode bytes pc = .ok (.dup_x1, 1)) (hp : pc + 1 = pc') (h1 : x.category = 1) (h2 : y.category = 1)
    (k : Go p e below (T.setTop (mkF m pc' Ls (x :: y :: x :: st))) G) : Go p e below (T.setTop (mkF m pc Ls (x :: y :: st))) G := by
  subst hp; exact go (fun _ => XS.dupX1 X.here K.1 (g := mkF m pc Ls (x :: y :: st)) rfl (dc K hd) rfl h1 h2) k
theorem i_swap (K : Cx p l e R s m meth c Z a0 W own nm bytes ml rt) (X : On p l e R s m args below meth c D Z n0 T A cells slots) {x y : Value} {pc' : Nat} (hd : decode bytes pc = .ok (.swap, 1)) (hp : pc + 1 = pc') (h1 : x.category = 1) (h2 : y.category = 1)
    (k : Go p e below (T.setTop (mkF m pc' Ls (y :: x :: st))) G) : Go p e below (T.setTop (mkF m pc Ls (x :: y :: st))) G := by
  subst hp; exact go (fun _ => XS.swap X.here K.1 (g := mkF m pc Ls (x :: y :: st)) rfl (dc K hd) rfl h1 h2) k
theorem i_iload (K : Cx p l e R s m meth c Z a0 W own nm bytes ml rt) (X : On p l e R s m args below meth c D Z n0 T A cells slots) {v : Int32} {i : Nat} {pc' : Nat} (hd : decode bytes pc = .ok (.iload i, 2)) (hp : pc + 2 = pc') (hl : Ls[i]? = some (.val (.int v)))
    (k : Go p e below (T.setTop (mkF m pc' Ls (.int v :: st))) G) : Go p e below (T.setTop (mkF m pc Ls (st))) G := by
  subst hp; exact go (fun _ => XS.iload X.here K.1 (g := mkF m pc Ls (st)) rfl (dc K hd) hl) k
theorem i_iloadN (K : Cx p l e R s m meth c Z a0 W own nm bytes ml rt) (X : On p l e R s m args below meth c D Z n0 T A cells slots) {v : Int32} {i : Fin 4} {pc' : Nat} (hd : decode bytes pc = .ok (.iload_n i, 1)) (hp : pc + 1 = pc') (hl : Ls[i.val]? = some (.val (.int v)))
    (k : Go p e below (T.setTop (mkF m pc' Ls (.int v :: st))) G) : Go p e below (T.setTop (mkF m pc Ls (st))) G := by
  subst hp; exact go (fun _ => XS.iloadN X.here K.1 (g := mkF m pc Ls (st)) rfl (dc K hd) hl) k
theorem i_lload (K : Cx p l e R s m meth c Z a0 W own nm bytes ml rt) (X : On p l e R s m args below meth c D Z n0 T A cells slots) {v : Int64} {i : Nat} {pc' : Nat} (hd : decode bytes pc = .ok (.lload i, 2)) (hp : pc + 2 = pc') (hl : Ls[i]? = some (.val (.long v)))
    (k : Go p e below (T.setTop (mkF m pc' Ls (.long v :: st))) G) : Go p e below (T.setTop (mkF m pc Ls (st))) G := by
  subst hp; exact go (fun _ => XS.lload X.here K.1 (g := mkF m pc Ls (st)) rfl (dc K hd) hl) k
theorem i_lloadN (K : Cx p l e R s m meth c Z a0 W own nm bytes ml rt) (X : On p l e R s m args below meth c D Z n0 T A cells slots) {v : Int64} {i : Fin 4} {pc' : Nat} (hd : decode bytes pc = .ok (.lload_n i, 1)) (hp : pc + 1 = pc') (hl : Ls[i.val]? = some (.val (.long v)))
    (k : Go p e below (T.setTop (mkF m pc' Ls (.long v :: st))) G) : Go p e below (T.setTop (mkF m pc Ls (st))) G := by
  subst hp; exact go (fun _ => XS.lloadN X.here K.1 (g := mkF m pc Ls (st)) rfl (dc K hd) hl) k
theorem i_aload (K : Cx p l e R s m meth c Z a0 W own nm bytes ml rt) (X : On p l e R s m args below meth c D Z n0 T A cells slots) {v : Value} {i : Nat} {pc' : Nat} (hd : decode bytes pc = .ok (.aload i, 2)) (hp : pc + 2 = pc') (hl : Ls[i]? = some (.val v)) (hv : v.isRef = true)
    (k : Go p e below (T.setTop (mkF m pc' Ls (v :: st))) G) : Go p e below (T.setTop (mkF m pc Ls (st))) G := by
  subst hp; exact go (fun _ => XS.aload X.here K.1 (g := mkF m pc Ls (st)) rfl (dc K hd) hl hv) k
theorem i_aloadN (K : Cx p l e R s m meth c Z a0 W own nm bytes ml rt) (X : On p l e R s m args below meth c D Z n0 T A cells slots) {v : Value} {i : Fin 4} {pc' : Nat} (hd : decode bytes pc = .ok (.aload_n i, 1)) (hp : pc + 1 = pc') (hl : Ls[i.val]? = some (.val v)) (hv : v.isRef = true)
    (k : Go p e below (T.setTop (mkF m pc' Ls (v :: st))) G) : Go p e below (T.setTop (mkF m pc Ls (st))) G := by
  subst hp; exact go (fun _ => XS.aloadN X.here K.1 (g := mkF m pc Ls (st)) rfl (dc K hd) hl hv) k
theorem i_istore (K : Cx p l e R s m meth c Z a0 W own nm bytes ml rt) (X : On p l e R s m args below meth c D Z n0 T A cells slots) {v : Int32} {i : Nat} {Ls' : Array Slot} {pc' : Nat} (hd : decode bytes pc = .ok (.istore i, 2)) (hp : pc + 2 = pc') (hl : storeLocals Ls i (.int v) = some Ls')
    (k : Go p e below (T.setTop (mkF m pc' Ls' (st))) G) : Go p e below (T.setTop (mkF m pc Ls (.int v :: st))) G := by
  subst hp; exact go (fun _ => XS.istore X.here K.1 (g := mkF m pc Ls (.int v :: st)) rfl (dc K hd) rfl hl) k
theorem i_istoreN (K : Cx p l e R s m meth c Z a0 W own nm bytes ml rt) (X : On p l e R s m args below meth c D Z n0 T A cells slots) {v : Int32} {i : Fin 4} {Ls' : Array Slot} {pc' : Nat} (hd : decode bytes pc = .ok (.istore_n i, 1)) (hp : pc + 1 = pc') (hl : storeLocals Ls i.val (.int v) = some Ls')
    (k : Go p e below (T.setTop (mkF m pc' Ls' (st))) G) : Go p e below (T.setTop (mkF m pc Ls (.int v :: st))) G := by
  subst hp; exact go (fun _ => XS.istoreN X.here K.1 (g := mkF m pc Ls (.int v :: st)) rfl (dc K hd) rfl hl) k
theorem i_lstore (K : Cx p l e R s m meth c Z a0 W own nm bytes ml rt) (X : On p l e R s m args below meth c D Z n0 T A cells slots) {v : Int64} {i : Nat} {Ls' : Array Slot} {pc' : Nat} (hd : decode bytes pc = .ok (.lstore i, 2)) (hp : pc + 2 = pc') (hl : storeLocals Ls i (.long v) = some Ls')
    (k : Go p e below (T.setTop (mkF m pc' Ls' (st))) G) : Go p e below (T.setTop (mkF m pc Ls (.long v :: st))) G := by
  subst hp; exact go (fun _ => XS.lstore X.here K.1 (g := mkF m pc Ls (.long v :: st)) rfl (dc K hd) rfl hl) k
theorem i_lstoreN (K : Cx p l e R s m meth c Z a0 W own nm bytes ml rt) (X : On p l e R s m args below meth c D Z n0 T A cells slots) {v : Int64} {i : Fin 4} {Ls' : Array Slot} {pc' : Nat} (hd : decode bytes pc = .ok (.lstore_n i, 1)) (hp : pc + 1 = pc') (hl : storeLocals Ls i.val (.long v) = some Ls')
    (k : Go p e below (T.setTop (mkF m pc' Ls' (st))) G) : Go p e below (T.setTop (mkF m pc Ls (.long v :: st))) G := by
  subst hp; exact go (fun _ => XS.lstoreN X.here K.1 (g := mkF m pc Ls (.long v :: st)) rfl (dc K hd) rfl hl) k
theorem i_astore (K : Cx p l e R s m meth c Z a0 W own nm bytes ml rt) (X : On p l e R s m args below meth c D Z n0 T A cells slots) {v : Value} {i : Nat} {Ls' : Array Slot} {pc' : Nat} (hd : decode bytes pc = .ok (.astore i, 2)) (hp : pc + 2 = pc') (hl : storeLocals Ls i v = some Ls') (hv : v.isRef = true)
    (k : Go p e below (T.setTop (mkF m pc' Ls' (st))) G) : Go p e below (T.setTop (mkF m pc Ls (v :: st))) G := by
  subst hp; exact go (fun _ => XS.astore X.here K.1 (g := mkF m pc Ls (v :: st)) rfl (dc K hd) rfl hv hl) k
theorem i_astoreN (K : Cx p l e R s m meth c Z a0 W own nm bytes ml rt) (X : On p l e R s m args below meth c D Z n0 T A cells slots) {v : Value} {i : Fin 4} {Ls' : Array Slot} {pc' : Nat} (hd : decode bytes pc = .ok (.astore_n i, 1)) (hp : pc + 1 = pc') (hl : storeLocals Ls i.val v = some Ls') (hv : v.isRef = true)
    (k : Go p e below (T.setTop (mkF m pc' Ls' (st))) G) : Go p e below (T.setTop (mkF m pc Ls (v :: st))) G := by
  subst hp; exact go (fun _ => XS.astoreN X.here K.1 (g := mkF m pc Ls (v :: st)) rfl (dc K hd) rfl hv hl) k
theorem i_iconst (K : Cx p l e R s m meth c Z a0 W own nm bytes ml rt) (X : On p l e R s m args below meth c D Z n0 T A cells slots) {i : Int} {v : Int32} {pc' : Nat} (hd : decode bytes pc = .ok (.iconst i, 1)) (hp : pc + 1 = pc') (hv : Int32.ofInt i = v)
    (k : Go p e below (T.setTop (mkF m pc' Ls (.int v :: st))) G) : Go p e below (T.setTop (mkF m pc Ls st)) G := by
  subst hp hv; exact go (fun _ => XS.iconst X.here K.1 (g := mkF m pc Ls st) rfl (dc K hd)) k
theorem i_bipush (K : Cx p l e R s m meth c Z a0 W own nm bytes ml rt) (X : On p l e R s m args below meth c D Z n0 T A cells slots) {i : Int} {v : Int32} {pc' : Nat} (hd : decode bytes pc = .ok (.bipush i, 2)) (hp : pc + 2 = pc') (hv : (Int8.ofInt i).toInt32 = v)
    (k : Go p e below (T.setTop (mkF m pc' Ls (.int v :: st))) G) : Go p e below (T.setTop (mkF m pc Ls st)) G := by
  subst hp hv; exact go (fun _ => XS.bipush X.here K.1 (g := mkF m pc Ls st) rfl (dc K hd)) k
theorem i_sipush (K : Cx p l e R s m meth c Z a0 W own nm bytes ml rt) (X : On p l e R s m args below meth c D Z n0 T A cells slots) {i : Int} {v : Int32} {pc' : Nat} (hd : decode bytes pc = .ok (.sipush i, 3)) (hp : pc + 3 = pc') (hv : (Int16.ofInt i).toInt32 = v)
    (k : Go p e below (T.setTop (mkF m pc' Ls (.int v :: st))) G) : Go p e below (T.setTop (mkF m pc Ls st)) G := by
  subst hp hv; exact go (fun _ => XS.sipush X.here K.1 (g := mkF m pc Ls st) rfl (dc K hd)) k
theorem i_lconst (K : Cx p l e R s m meth c Z a0 W own nm bytes ml rt) (X : On p l e R s m args below meth c D Z n0 T A cells slots) {i : Fin 2} {v : Int64} {pc' : Nat} (hd : decode bytes pc = .ok (.lconst i, 1)) (hp : pc + 1 = pc') (hv : Int64.ofNat i = v)
    (k : Go p e below (T.setTop (mkF m pc' Ls (.long v :: st))) G) : Go p e below (T.setTop (mkF m pc Ls st)) G := by
  subst hp hv; exact go (fun _ => XS.lconst X.here K.1 (g := mkF m pc Ls st) rfl (dc K hd)) k
theorem i_aconstNull (K : Cx p l e R s m meth c Z a0 W own nm bytes ml rt) (X : On p l e R s m args below meth c D Z n0 T A cells slots)  {pc' : Nat} (hd : decode bytes pc = .ok (.aconst_null, 1)) (hp : pc + 1 = pc')
    (k : Go p e below (T.setTop (mkF m pc' Ls (.null :: st))) G) : Go p e below (T.setTop (mkF m pc Ls (st))) G := by
  subst hp; exact go (fun _ => XS.aconstNull X.here K.1 (g := mkF m pc Ls (st)) rfl (dc K hd)) k
theorem i_iinc (K : Cx p l e R s m meth c Z a0 W own nm bytes ml rt) (X : On p l e R s m args below meth c D Z n0 T A cells slots) {x y : Int32} {i : Nat} {cst : Int} {Ls' : Array Slot} {pc' : Nat} (hd : decode bytes pc = .ok (.iinc i cst, 3)) (hp : pc + 3 = pc') (hl : Ls[i]? = some (.val (.int x))) (hy : Int32.ofInt cst = y) (hl' : storeLocals Ls i (.int (x + y)) = some Ls')
    (k : Go p e below (T.setTop (mkF m pc' Ls' st)) G) : Go p e below (T.setTop (mkF m pc Ls st)) G := by
  subst hp hy; exact go (fun _ => XS.iinc X.here K.1 (g := mkF m pc Ls st) rfl (dc K hd) hl hl') k
theorem i_goto (K : Cx p l e R s m meth c Z a0 W own nm bytes ml rt) (X : On p l e R s m args below meth c D Z n0 T A cells slots)  {o : Int} {pc' : Nat} (hd : decode bytes pc = .ok (.goto o, 3))  (ho : 0 ≤ (pc : Int) + o) (hp : ((pc : Int) + o).toNat = pc')
    (k : Go p e below (T.setTop (mkF m pc' Ls st)) G) : Go p e below (T.setTop (mkF m pc Ls (st))) G := by
  exact go (fun _ => XS.goto X.here K.1 (g := mkF m pc Ls (st)) rfl (pc0 := pc) (pc' := pc') rfl (dc K hd)  ho hp) k
theorem i_ifYes (K : Cx p l e R s m meth c Z a0 W own nm bytes ml rt) (X : On p l e R s m args below meth c D Z n0 T A cells slots) {cd : ClassFile.Cond} {x : Int32} {o : Int} {pc' : Nat} (hd : decode bytes pc = .ok (.ifCond cd o, 3)) (h : if_icmp.holds cd x 0 = true) (ho : 0 ≤ (pc : Int) + o) (hp : ((pc : Int) + o).toNat = pc')
    (k : Go p e below (T.setTop (mkF m pc' Ls st)) G) : Go p e below (T.setTop (mkF m pc Ls (.int x :: st))) G := by
  exact go (fun _ => XS.ifYes X.here K.1 (g := mkF m pc Ls (.int x :: st)) rfl (pc0 := pc) (pc' := pc') rfl (dc K hd) rfl ((if0 _ _).trans h) ho hp) k
theorem i_icmpYes (K : Cx p l e R s m meth c Z a0 W own nm bytes ml rt) (X : On p l e R s m args below meth c D Z n0 T A cells slots) {cd : ClassFile.Cond} {x y : Int32} {o : Int} {pc' : Nat} (hd : decode bytes pc = .ok (.if_icmp cd o, 3)) (h : if_icmp.holds cd x y = true) (ho : 0 ≤ (pc : Int) + o) (hp : ((pc : Int) + o).toNat = pc')
    (k : Go p e below (T.setTop (mkF m pc' Ls st)) G) : Go p e below (T.setTop (mkF m pc Ls (.int y :: .int x :: st))) G := by
  exact go (fun _ => XS.icmpYes X.here K.1 (g := mkF m pc Ls (.int y :: .int x :: st)) rfl (pc0 := pc) (pc' := pc') rfl (dc K hd) rfl h ho hp) k
theorem i_ifNo (K : Cx p l e R s m meth c Z a0 W own nm bytes ml rt) (X : On p l e R s m args below meth c D Z n0 T A cells slots) {cd : ClassFile.Cond} {x : Int32} {o : Int} {pc' : Nat} (hd : decode bytes pc = .ok (.ifCond cd o, 3)) (hp : pc + 3 = pc') (h : if_icmp.holds cd x 0 = false)
    (k : Go p e below (T.setTop (mkF m pc' Ls (st))) G) : Go p e below (T.setTop (mkF m pc Ls (.int x :: st))) G := by
  subst hp; exact go (fun _ => XS.ifNo X.here K.1 (g := mkF m pc Ls (.int x :: st)) rfl (dc K hd) rfl ((if0 _ _).trans h)) k
theorem i_icmpNo (K : Cx p l e R s m meth c Z a0 W own nm bytes ml rt) (X : On p l e R s m args below meth c D Z n0 T A cells slots) {cd : ClassFile.Cond} {x y : Int32} {o : Int} {pc' : Nat} (hd : decode bytes pc = .ok (.if_icmp cd o, 3)) (hp : pc + 3 = pc') (h : if_icmp.holds cd x y = false)
    (k : Go p e below (T.setTop (mkF m pc' Ls (st))) G) : Go p e below (T.setTop (mkF m pc Ls (.int y :: .int x :: st))) G := by
  subst hp; exact go (fun _ => XS.icmpNo X.here K.1 (g := mkF m pc Ls (.int y :: .int x :: st)) rfl (dc K hd) rfl h) k
theorem i_ifnullYes (K : Cx p l e R s m meth c Z a0 W own nm bytes ml rt) (X : On p l e R s m args below meth c D Z n0 T A cells slots)  {o : Int} {pc' : Nat} (hd : decode bytes pc = .ok (.ifnull o, 3))  (ho : 0 ≤ (pc : Int) + o) (hp : ((pc : Int) + o).toNat = pc')
    (k : Go p e below (T.setTop (mkF m pc' Ls st)) G) : Go p e below (T.setTop (mkF m pc Ls (.null :: st))) G := by
  exact go (fun _ => XS.ifnullYes X.here K.1 (g := mkF m pc Ls (.null :: st)) rfl (pc0 := pc) (pc' := pc') rfl (dc K hd) rfl ho hp) k
theorem i_ifnullNo (K : Cx p l e R s m meth c Z a0 W own nm bytes ml rt) (X : On p l e R s m args below meth c D Z n0 T A cells slots) {b : Addr} {o : Int} {pc' : Nat} (hd : decode bytes pc = .ok (.ifnull o, 3)) (hp : pc + 3 = pc')
    (k : Go p e below (T.setTop (mkF m pc' Ls (st))) G) : Go p e below (T.setTop (mkF m pc Ls (.ref b :: st))) G := by
  subst hp; exact go (fun _ => XS.ifnullNo X.here K.1 (g := mkF m pc Ls (.ref b :: st)) rfl (dc K hd) rfl) k
theorem i_ifnonnullYes (K : Cx p l e R s m meth c Z a0 W own nm bytes ml rt) (X : On p l e R s m args below meth c D Z n0 T A cells slots) {b : Addr} {o : Int} {pc' : Nat} (hd : decode bytes pc = .ok (.ifnonnull o, 3))  (ho : 0 ≤ (pc : Int) + o) (hp : ((pc : Int) + o).toNat = pc')
    (k : Go p e below (T.setTop (mkF m pc' Ls st)) G) : Go p e below (T.setTop (mkF m pc Ls (.ref b :: st))) G := by
  exact go (fun _ => XS.ifnonnullYes X.here K.1 (g := mkF m pc Ls (.ref b :: st)) rfl (pc0 := pc) (pc' := pc') rfl (dc K hd) rfl ho hp) k
theorem i_ifnonnullNo (K : Cx p l e R s m meth c Z a0 W own nm bytes ml rt) (X : On p l e R s m args below meth c D Z n0 T A cells slots) {o : Int} {pc' : Nat} (hd : decode bytes pc = .ok (.ifnonnull o, 3)) (hp : pc + 3 = pc')
    (k : Go p e below (T.setTop (mkF m pc' Ls (st))) G) : Go p e below (T.setTop (mkF m pc Ls (.null :: st))) G := by
  subst hp; exact go (fun _ => XS.ifnonnullNo X.here K.1 (g := mkF m pc Ls (.null :: st)) rfl (dc K hd) rfl) k
theorem i_dup2 (K : Cx p l e R s m meth c Z a0 W own nm bytes ml rt) (X : On p l e R s m args below meth c D Z n0 T A cells slots) {x y : Value} {pc' : Nat} (hd : decode bytes pc = .ok (.dup2, 1)) (hp : pc + 1 = pc') (h1 : x.category = 1) (h2 : y.category = 1)
    (k : Go p e below (T.setTop (mkF m pc' Ls (x :: y :: x :: y :: st))) G) : Go p e below (T.setTop (mkF m pc Ls (x :: y :: st))) G := by
  subst hp; exact go (fun _ => Jvm.Free.XT.dup2 X.here K.1 (g := mkF m pc Ls (x :: y :: st)) rfl (dc K hd) rfl h1 h2) k
theorem i_dup2L (K : Cx p l e R s m meth c Z a0 W own nm bytes ml rt) (X : On p l e R s m args below meth c D Z n0 T A cells slots) {x : Int64} {pc' : Nat} (hd : decode bytes pc = .ok (.dup2, 1)) (hp : pc + 1 = pc') 
    (k : Go p e below (T.setTop (mkF m pc' Ls (.long x :: .long x :: st))) G) : Go p e below (T.setTop (mkF m pc Ls (.long x :: st))) G := by
  subst hp; exact go (fun _ => Jvm.Free.XT.dup2L X.here K.1 (g := mkF m pc Ls (.long x :: st)) rfl (dc K hd) rfl) k
theorem i_dupX2 (K : Cx p l e R s m meth c Z a0 W own nm bytes ml rt) (X : On p l e R s m args below meth c D Z n0 T A cells slots) {x : Int32} {y : Int32} {z : Addr} {pc' : Nat} (hd : decode bytes pc = .ok (.dup_x2, 1)) (hp : pc + 1 = pc')
    (k : Go p e below (T.setTop (mkF m pc' Ls (.int x :: .int y :: .ref z :: .int x :: st))) G) : Go p e below (T.setTop (mkF m pc Ls (.int x :: .int y :: .ref z :: st))) G := by
  subst hp
  refine go (fun t hk => ?_) k
  have hdc := dc K hd
  jvm_step X.here [X.here.top, K.1, hdc, Value.category]
  exact hk
theorem i_dup2X1 (K : Cx p l e R s m meth c Z a0 W own nm bytes ml rt) (X : On p l e R s m args below meth c D Z n0 T A cells slots) {x : Int64} {z : Addr} {pc' : Nat} (hd : decode bytes pc = .ok (.dup2_x1, 1)) (hp : pc + 1 = pc')
    (k : Go p e below (T.setTop (mkF m pc' Ls (.long x :: .ref z :: .long x :: st))) G) : Go p e below (T.setTop (mkF m pc Ls (.long x :: .ref z :: st))) G := by
  subst hp
  refine go (fun t hk => ?_) k
  have hdc := dc K hd
  jvm_step X.here [X.here.top, K.1, hdc, Value.category]
  exact hk
theorem i_dup2X2 (K : Cx p l e R s m meth c Z a0 W own nm bytes ml rt) (X : On p l e R s m args below meth c D Z n0 T A cells slots) {x : Int64} {y : Int32} {z : Addr} {pc' : Nat} (hd : decode bytes pc = .ok (.dup2_x2, 1)) (hp : pc + 1 = pc')
    (k : Go p e below (T.setTop (mkF m pc' Ls (.long x :: .int y :: .ref z :: .long x :: st))) G) : Go p e below (T.setTop (mkF m pc Ls (.long x :: .int y :: .ref z :: st))) G := by
  subst hp
  refine go (fun t hk => ?_) k
  have hdc := dc K hd
  jvm_step X.here [X.here.top, K.1, hdc, Value.category]
  exact hk
theorem stOne {Ls Ls' : Array Slot} {i : Nat} {v : Value} {o : Slot} (h : One o) (hold : Ls[i]? = some o) (hv : v.category = 1) (e : Ls.setIfInBounds i (.val v) = Ls') : storeLocals Ls i v = some Ls' := by
  rw [← e]; exact XS.store1 hold h hv
theorem bs {α β : Type} {o : Option α} {f : α → Option β} {b : β} (h : o.bind f = some b) : ∃ a, o = some a ∧ f a = some b := Option.bind_eq_some_iff.mp h
end Instr
end Jvm.OwnKit
namespace Jvm.Pilot.@@N@@
open Jvm Jvm.ClassFile Sem Op Lib Jvm.Free Jvm.Stand Jvm.LawKit Jvm.RoadKit Jvm.OwnKit Bundle Jvm.Pilot.@@N@@.Jvm.D
def own_D : Dic
  | _ => ("", [])
theorem own_sep {Z : State} {a0 : Array Value} (hw : ∀ d ∈ tables_1, d.before a0 Z = true) : ∀ t, Sep Z (own_D t).2 := by
  intro t
  unfold own_D
  split
  · exact Sep.nil
section OwnWalk
variable {p : Program} {l : Launch} {e : Env} {s : State} {m : MethodId} {args : Array Value} {below : List Frame} {meth : Method} {c : Code} {Z : State} {a0 : Array Value} {n0 : Nat} {T : State} {A : AH} {cells slots : Nat}
/-! body 1: AlignmentFilterHoldsZeroMaskingLastPinLaw.spread(I)J -/
theorem d1_0 : decode method_4_code 0 = .ok (.lconst 0, 1) := by decide +kernel
theorem d1_1 : decode method_4_code 1 = .ok (.lstore_n 1, 1) := by decide +kernel
theorem d1_2 : decode method_4_code 2 = .ok (.lload_n 1, 1) := by decide +kernel
theorem d1_3 : decode method_4_code 3 = .ok (.iload_n 0, 1) := by decide +kernel
theorem d1_4 : decode method_4_code 4 = .ok (.iconst 1, 1) := by decide +kernel
theorem d1_5 : decode method_4_code 5 = .ok (.iand, 1) := by decide +kernel
theorem d1_6 : decode method_4_code 6 = .ok (.ifCond .eq 9, 3) := by decide +kernel
theorem d1_9 : decode method_4_code 9 = .ok (.ldc2_w 27, 3) := by decide +kernel
theorem d1_12 : decode method_4_code 12 = .ok (.goto 4, 3) := by decide +kernel
theorem d1_15 : decode method_4_code 15 = .ok (.lconst 0, 1) := by decide +kernel
theorem d1_16 : decode method_4_code 16 = .ok (.lor, 1) := by decide +kernel
theorem d1_17 : decode method_4_code 17 = .ok (.lstore_n 1, 1) := by decide +kernel
theorem d1_18 : decode method_4_code 18 = .ok (.lload_n 1, 1) := by decide +kernel
theorem d1_19 : decode method_4_code 19 = .ok (.iload_n 0, 1) := by decide +kernel
theorem d1_20 : decode method_4_code 20 = .ok (.iconst 2, 1) := by decide +kernel
theorem d1_21 : decode method_4_code 21 = .ok (.iand, 1) := by decide +kernel
theorem d1_22 : decode method_4_code 22 = .ok (.ifCond .eq 9, 3) := by decide +kernel
theorem d1_25 : decode method_4_code 25 = .ok (.ldc2_w 29, 3) := by decide +kernel
theorem d1_28 : decode method_4_code 28 = .ok (.goto 4, 3) := by decide +kernel
theorem d1_31 : decode method_4_code 31 = .ok (.lconst 0, 1) := by decide +kernel
theorem d1_32 : decode method_4_code 32 = .ok (.lor, 1) := by decide +kernel
theorem d1_33 : decode method_4_code 33 = .ok (.lstore_n 1, 1) := by decide +kernel
theorem d1_34 : decode method_4_code 34 = .ok (.lload_n 1, 1) := by decide +kernel
theorem d1_35 : decode method_4_code 35 = .ok (.iload_n 0, 1) := by decide +kernel
theorem d1_36 : decode method_4_code 36 = .ok (.iconst 4, 1) := by decide +kernel
theorem d1_37 : decode method_4_code 37 = .ok (.iand, 1) := by decide +kernel
theorem d1_38 : decode method_4_code 38 = .ok (.ifCond .eq 9, 3) := by decide +kernel
theorem d1_41 : decode method_4_code 41 = .ok (.ldc2_w 31, 3) := by decide +kernel
theorem d1_44 : decode method_4_code 44 = .ok (.goto 4, 3) := by decide +kernel
theorem d1_47 : decode method_4_code 47 = .ok (.lconst 0, 1) := by decide +kernel
theorem d1_48 : decode method_4_code 48 = .ok (.lor, 1) := by decide +kernel
theorem d1_49 : decode method_4_code 49 = .ok (.lstore_n 1, 1) := by decide +kernel
theorem d1_50 : decode method_4_code 50 = .ok (.lload_n 1, 1) := by decide +kernel
theorem d1_51 : decode method_4_code 51 = .ok (.iload_n 0, 1) := by decide +kernel
theorem d1_52 : decode method_4_code 52 = .ok (.bipush 8, 2) := by decide +kernel
theorem d1_54 : decode method_4_code 54 = .ok (.iand, 1) := by decide +kernel
theorem d1_55 : decode method_4_code 55 = .ok (.ifCond .eq 9, 3) := by decide +kernel
theorem d1_58 : decode method_4_code 58 = .ok (.ldc2_w 33, 3) := by decide +kernel
theorem d1_61 : decode method_4_code 61 = .ok (.goto 4, 3) := by decide +kernel
theorem d1_64 : decode method_4_code 64 = .ok (.lconst 0, 1) := by decide +kernel
theorem d1_65 : decode method_4_code 65 = .ok (.lor, 1) := by decide +kernel
theorem d1_66 : decode method_4_code 66 = .ok (.lstore_n 1, 1) := by decide +kernel
theorem d1_67 : decode method_4_code 67 = .ok (.lload_n 1, 1) := by decide +kernel
theorem d1_68 : decode method_4_code 68 = .ok (.iload_n 0, 1) := by decide +kernel
theorem d1_69 : decode method_4_code 69 = .ok (.bipush 16, 2) := by decide +kernel
theorem d1_71 : decode method_4_code 71 = .ok (.iand, 1) := by decide +kernel
theorem d1_72 : decode method_4_code 72 = .ok (.ifCond .eq 9, 3) := by decide +kernel
theorem d1_75 : decode method_4_code 75 = .ok (.ldc2_w 35, 3) := by decide +kernel
theorem d1_78 : decode method_4_code 78 = .ok (.goto 4, 3) := by decide +kernel
theorem d1_81 : decode method_4_code 81 = .ok (.lconst 0, 1) := by decide +kernel
theorem d1_82 : decode method_4_code 82 = .ok (.lor, 1) := by decide +kernel
theorem d1_83 : decode method_4_code 83 = .ok (.lstore_n 1, 1) := by decide +kernel
theorem d1_84 : decode method_4_code 84 = .ok (.lload_n 1, 1) := by decide +kernel
theorem d1_85 : decode method_4_code 85 = .ok (.iload_n 0, 1) := by decide +kernel
theorem d1_86 : decode method_4_code 86 = .ok (.bipush 32, 2) := by decide +kernel
theorem d1_88 : decode method_4_code 88 = .ok (.iand, 1) := by decide +kernel
theorem d1_89 : decode method_4_code 89 = .ok (.ifCond .eq 9, 3) := by decide +kernel
theorem d1_92 : decode method_4_code 92 = .ok (.ldc2_w 37, 3) := by decide +kernel
theorem d1_95 : decode method_4_code 95 = .ok (.goto 4, 3) := by decide +kernel
theorem d1_98 : decode method_4_code 98 = .ok (.lconst 0, 1) := by decide +kernel
theorem d1_99 : decode method_4_code 99 = .ok (.lor, 1) := by decide +kernel
theorem d1_100 : decode method_4_code 100 = .ok (.lstore_n 1, 1) := by decide +kernel
theorem d1_101 : decode method_4_code 101 = .ok (.lload_n 1, 1) := by decide +kernel
theorem d1_102 : decode method_4_code 102 = .ok (.iload_n 0, 1) := by decide +kernel
theorem d1_103 : decode method_4_code 103 = .ok (.bipush 64, 2) := by decide +kernel
theorem d1_105 : decode method_4_code 105 = .ok (.iand, 1) := by decide +kernel
theorem d1_106 : decode method_4_code 106 = .ok (.ifCond .eq 9, 3) := by decide +kernel
theorem d1_109 : decode method_4_code 109 = .ok (.ldc2_w 39, 3) := by decide +kernel
theorem d1_112 : decode method_4_code 112 = .ok (.goto 4, 3) := by decide +kernel
theorem d1_115 : decode method_4_code 115 = .ok (.lconst 0, 1) := by decide +kernel
theorem d1_116 : decode method_4_code 116 = .ok (.lor, 1) := by decide +kernel
theorem d1_117 : decode method_4_code 117 = .ok (.lstore_n 1, 1) := by decide +kernel
theorem d1_118 : decode method_4_code 118 = .ok (.lload_n 1, 1) := by decide +kernel
theorem d1_119 : decode method_4_code 119 = .ok (.iload_n 0, 1) := by decide +kernel
theorem d1_120 : decode method_4_code 120 = .ok (.sipush 128, 3) := by decide +kernel
theorem d1_123 : decode method_4_code 123 = .ok (.iand, 1) := by decide +kernel
theorem d1_124 : decode method_4_code 124 = .ok (.ifCond .eq 9, 3) := by decide +kernel
theorem d1_127 : decode method_4_code 127 = .ok (.ldc2_w 41, 3) := by decide +kernel
theorem d1_130 : decode method_4_code 130 = .ok (.goto 4, 3) := by decide +kernel
theorem d1_133 : decode method_4_code 133 = .ok (.lconst 0, 1) := by decide +kernel
theorem d1_134 : decode method_4_code 134 = .ok (.lor, 1) := by decide +kernel
theorem d1_135 : decode method_4_code 135 = .ok (.lstore_n 1, 1) := by decide +kernel
theorem d1_136 : decode method_4_code 136 = .ok (.lload_n 1, 1) := by decide +kernel
theorem d1_137 : decode method_4_code 137 = .ok (.lreturn, 1) := by decide +kernel
theorem pd_1 : parseMethodDescriptor "(I)J" = some ⟨[.int], some .long⟩ := by decide +kernel
abbrev own_R1 : Room := { frames := 0, cells := 0, slots := 0, locals := 0 }
def f1_134 (u0 : Int64) (u1 : Int64) : Int64 :=
  (u1 ||| u0)
set_option maxRecDepth 65536 in
set_option maxHeartbeats 4000000 in
theorem w1_134 (K : Cx p l e own_R1 s m meth c Z a0 tables_1 "com/example/mopac/mopac/core/AlignmentFilterHoldsZeroMaskingLastPinLaw" "spread" method_4_code 3 (some .long)) (X : On p l e own_R1 s m args below meth c own_D Z n0 T A cells slots) (i0 : Int32) (j1 : Int64) (u0 : Int64) (u1 : Int64) (hc : cells + 0 ≤ 0) (hs : slots + 0 ≤ 0) :
    Go p e below (T.setTop (mkF m 134 #[.val (.int i0), .val (.long j1), .second] [(.long u0), (.long u1)])) (Fini own_D Z n0 s own_R1 (some (.long (f1_134 u0 u1))) A) := by
  unfold f1_134
  refine i_lor (pc' := 135) K X d1_134 rfl ?_
  refine i_lstoreN (pc' := 136) (Ls' := #[.val (.int i0), .val (.long (u1 ||| u0)), .second]) K X d1_135 rfl rfl ?_
  refine i_lloadN (pc' := 137) K X d1_136 rfl rfl ?_
  exact retJ K X (show cells ≤ 0 by omega) (show slots ≤ 0 by omega) d1_137
def f1_116 (i0 : Int32) (u0 : Int64) (u1 : Int64) : Int64 :=
  if (i0 &&& (128 : Int32)) = (0 : Int32) then (f1_134 (0 : Int64) (u1 ||| u0))
  else (f1_134 (-72057594037927936 : Int64) (u1 ||| u0))
set_option maxRecDepth 65536 in
set_option maxHeartbeats 4000000 in
theorem w1_116 (K : Cx p l e own_R1 s m meth c Z a0 tables_1 "com/example/mopac/mopac/core/AlignmentFilterHoldsZeroMaskingLastPinLaw" "spread" method_4_code 3 (some .long)) (X : On p l e own_R1 s m args below meth c own_D Z n0 T A cells slots) (i0 : Int32) (j1 : Int64) (u0 : Int64) (u1 : Int64) (hc : cells + 0 ≤ 0) (hs : slots + 0 ≤ 0) :
    Go p e below (T.setTop (mkF m 116 #[.val (.int i0), .val (.long j1), .second] [(.long u0), (.long u1)])) (Fini own_D Z n0 s own_R1 (some (.long (f1_116 i0 u0 u1))) A) := by
  unfold f1_116
  refine i_lor (pc' := 117) K X d1_116 rfl ?_
  refine i_lstoreN (pc' := 118) (Ls' := #[.val (.int i0), .val (.long (u1 ||| u0)), .second]) K X d1_117 rfl rfl ?_
  refine i_lloadN (pc' := 119) K X d1_118 rfl rfl ?_
  refine i_iloadN (pc' := 120) K X d1_119 rfl rfl ?_
  refine i_sipush (pc' := 123) (v := (128 : Int32)) K X d1_120 rfl rfl ?_
  refine i_iand (pc' := 124) K X d1_123 rfl ?_
  by_cases hc124 : (i0 &&& (128 : Int32)) = (0 : Int32)
  · rw [if_pos hc124]
    refine i_ifYes (pc' := 133) K X d1_124 (teq hc124).1 (by decide) (by decide) ?_
    refine i_lconst (pc' := 134) (v := (0 : Int64)) K X d1_133 rfl rfl ?_
    exact w1_134 K X i0 (u1 ||| u0) (0 : Int64) (u1 ||| u0) (show cells + 0 ≤ 0 by omega) (show slots + 0 ≤ 0 by omega)
  · rw [if_neg hc124]
    refine i_ifNo (pc' := 127) K X d1_124 rfl (feq hc124).1 ?_
    refine ldcL (pc' := 130) (v := (-72057594037927936 : Int64)) K X (i := 23) rfl d1_127 rfl ?_
    refine i_goto (pc' := 134) K X d1_130 (by decide) (by decide) ?_
    exact w1_134 K X i0 (u1 ||| u0) (-72057594037927936 : Int64) (u1 ||| u0) (show cells + 0 ≤ 0 by omega) (show slots + 0 ≤ 0 by omega)
def f1_99 (i0 : Int32) (u0 : Int64) (u1 : Int64) : Int64 :=
  if (i0 &&& (64 : Int32)) = (0 : Int32) then (f1_116 i0 (0 : Int64) (u1 ||| u0))
  else (f1_116 i0 (71776119061217280 : Int64) (u1 ||| u0))
set_option maxRecDepth 65536 in
set_option maxHeartbeats 4000000 in
theorem w1_99 (K : Cx p l e own_R1 s m meth c Z a0 tables_1 "com/example/mopac/mopac/core/AlignmentFilterHoldsZeroMaskingLastPinLaw" "spread" method_4_code 3 (some .long)) (X : On p l e own_R1 s m args below meth c own_D Z n0 T A cells slots) (i0 : Int32) (j1 : Int64) (u0 : Int64) (u1 : Int64) (hc : cells + 0 ≤ 0) (hs : slots + 0 ≤ 0) :
    Go p e below (T.setTop (mkF m 99 #[.val (.int i0), .val (.long j1), .second] [(.long u0), (.long u1)])) (Fini own_D Z n0 s own_R1 (some (.long (f1_99 i0 u0 u1))) A) := by
  unfold f1_99
  refine i_lor (pc' := 100) K X d1_99 rfl ?_
  refine i_lstoreN (pc' := 101) (Ls' := #[.val (.int i0), .val (.long (u1 ||| u0)), .second]) K X d1_100 rfl rfl ?_
  refine i_lloadN (pc' := 102) K X d1_101 rfl rfl ?_
  refine i_iloadN (pc' := 103) K X d1_102 rfl rfl ?_
  refine i_bipush (pc' := 105) (v := (64 : Int32)) K X d1_103 rfl rfl ?_
  refine i_iand (pc' := 106) K X d1_105 rfl ?_
  by_cases hc106 : (i0 &&& (64 : Int32)) = (0 : Int32)
  · rw [if_pos hc106]
    refine i_ifYes (pc' := 115) K X d1_106 (teq hc106).1 (by decide) (by decide) ?_
    refine i_lconst (pc' := 116) (v := (0 : Int64)) K X d1_115 rfl rfl ?_
    exact w1_116 K X i0 (u1 ||| u0) (0 : Int64) (u1 ||| u0) (show cells + 0 ≤ 0 by omega) (show slots + 0 ≤ 0 by omega)
  · rw [if_neg hc106]
    refine i_ifNo (pc' := 109) K X d1_106 rfl (feq hc106).1 ?_
    refine ldcL (pc' := 112) (v := (71776119061217280 : Int64)) K X (i := 22) rfl d1_109 rfl ?_
    refine i_goto (pc' := 116) K X d1_112 (by decide) (by decide) ?_
    exact w1_116 K X i0 (u1 ||| u0) (71776119061217280 : Int64) (u1 ||| u0) (show cells + 0 ≤ 0 by omega) (show slots + 0 ≤ 0 by omega)
def f1_82 (i0 : Int32) (u0 : Int64) (u1 : Int64) : Int64 :=
  if (i0 &&& (32 : Int32)) = (0 : Int32) then (f1_99 i0 (0 : Int64) (u1 ||| u0))
  else (f1_99 i0 (280375465082880 : Int64) (u1 ||| u0))
set_option maxRecDepth 65536 in
set_option maxHeartbeats 4000000 in
theorem w1_82 (K : Cx p l e own_R1 s m meth c Z a0 tables_1 "com/example/mopac/mopac/core/AlignmentFilterHoldsZeroMaskingLastPinLaw" "spread" method_4_code 3 (some .long)) (X : On p l e own_R1 s m args below meth c own_D Z n0 T A cells slots) (i0 : Int32) (j1 : Int64) (u0 : Int64) (u1 : Int64) (hc : cells + 0 ≤ 0) (hs : slots + 0 ≤ 0) :
    Go p e below (T.setTop (mkF m 82 #[.val (.int i0), .val (.long j1), .second] [(.long u0), (.long u1)])) (Fini own_D Z n0 s own_R1 (some (.long (f1_82 i0 u0 u1))) A) := by
  unfold f1_82
  refine i_lor (pc' := 83) K X d1_82 rfl ?_
  refine i_lstoreN (pc' := 84) (Ls' := #[.val (.int i0), .val (.long (u1 ||| u0)), .second]) K X d1_83 rfl rfl ?_
  refine i_lloadN (pc' := 85) K X d1_84 rfl rfl ?_
  refine i_iloadN (pc' := 86) K X d1_85 rfl rfl ?_
  refine i_bipush (pc' := 88) (v := (32 : Int32)) K X d1_86 rfl rfl ?_
  refine i_iand (pc' := 89) K X d1_88 rfl ?_
  by_cases hc89 : (i0 &&& (32 : Int32)) = (0 : Int32)
  · rw [if_pos hc89]
    refine i_ifYes (pc' := 98) K X d1_89 (teq hc89).1 (by decide) (by decide) ?_
    refine i_lconst (pc' := 99) (v := (0 : Int64)) K X d1_98 rfl rfl ?_
    exact w1_99 K X i0 (u1 ||| u0) (0 : Int64) (u1 ||| u0) (show cells + 0 ≤ 0 by omega) (show slots + 0 ≤ 0 by omega)
  · rw [if_neg hc89]
    refine i_ifNo (pc' := 92) K X d1_89 rfl (feq hc89).1 ?_
    refine ldcL (pc' := 95) (v := (280375465082880 : Int64)) K X (i := 21) rfl d1_92 rfl ?_
    refine i_goto (pc' := 99) K X d1_95 (by decide) (by decide) ?_
    exact w1_99 K X i0 (u1 ||| u0) (280375465082880 : Int64) (u1 ||| u0) (show cells + 0 ≤ 0 by omega) (show slots + 0 ≤ 0 by omega)
def f1_65 (i0 : Int32) (u0 : Int64) (u1 : Int64) : Int64 :=
  if (i0 &&& (16 : Int32)) = (0 : Int32) then (f1_82 i0 (0 : Int64) (u1 ||| u0))
  else (f1_82 i0 (1095216660480 : Int64) (u1 ||| u0))
set_option maxRecDepth 65536 in
set_option maxHeartbeats 4000000 in
theorem w1_65 (K : Cx p l e own_R1 s m meth c Z a0 tables_1 "com/example/mopac/mopac/core/AlignmentFilterHoldsZeroMaskingLastPinLaw" "spread" method_4_code 3 (some .long)) (X : On p l e own_R1 s m args below meth c own_D Z n0 T A cells slots) (i0 : Int32) (j1 : Int64) (u0 : Int64) (u1 : Int64) (hc : cells + 0 ≤ 0) (hs : slots + 0 ≤ 0) :
    Go p e below (T.setTop (mkF m 65 #[.val (.int i0), .val (.long j1), .second] [(.long u0), (.long u1)])) (Fini own_D Z n0 s own_R1 (some (.long (f1_65 i0 u0 u1))) A) := by
  unfold f1_65
  refine i_lor (pc' := 66) K X d1_65 rfl ?_
  refine i_lstoreN (pc' := 67) (Ls' := #[.val (.int i0), .val (.long (u1 ||| u0)), .second]) K X d1_66 rfl rfl ?_
  refine i_lloadN (pc' := 68) K X d1_67 rfl rfl ?_
  refine i_iloadN (pc' := 69) K X d1_68 rfl rfl ?_
  refine i_bipush (pc' := 71) (v := (16 : Int32)) K X d1_69 rfl rfl ?_
  refine i_iand (pc' := 72) K X d1_71 rfl ?_
  by_cases hc72 : (i0 &&& (16 : Int32)) = (0 : Int32)
  · rw [if_pos hc72]
    refine i_ifYes (pc' := 81) K X d1_72 (teq hc72).1 (by decide) (by decide) ?_
    refine i_lconst (pc' := 82) (v := (0 : Int64)) K X d1_81 rfl rfl ?_
    exact w1_82 K X i0 (u1 ||| u0) (0 : Int64) (u1 ||| u0) (show cells + 0 ≤ 0 by omega) (show slots + 0 ≤ 0 by omega)
  · rw [if_neg hc72]
    refine i_ifNo (pc' := 75) K X d1_72 rfl (feq hc72).1 ?_
    refine ldcL (pc' := 78) (v := (1095216660480 : Int64)) K X (i := 20) rfl d1_75 rfl ?_
    refine i_goto (pc' := 82) K X d1_78 (by decide) (by decide) ?_
    exact w1_82 K X i0 (u1 ||| u0) (1095216660480 : Int64) (u1 ||| u0) (show cells + 0 ≤ 0 by omega) (show slots + 0 ≤ 0 by omega)
def f1_48 (i0 : Int32) (u0 : Int64) (u1 : Int64) : Int64 :=
  if (i0 &&& (8 : Int32)) = (0 : Int32) then (f1_65 i0 (0 : Int64) (u1 ||| u0))
  else (f1_65 i0 (4278190080 : Int64) (u1 ||| u0))
set_option maxRecDepth 65536 in
set_option maxHeartbeats 4000000 in
theorem w1_48 (K : Cx p l e own_R1 s m meth c Z a0 tables_1 "com/example/mopac/mopac/core/AlignmentFilterHoldsZeroMaskingLastPinLaw" "spread" method_4_code 3 (some .long)) (X : On p l e own_R1 s m args below meth c own_D Z n0 T A cells slots) (i0 : Int32) (j1 : Int64) (u0 : Int64) (u1 : Int64) (hc : cells + 0 ≤ 0) (hs : slots + 0 ≤ 0) :
    Go p e below (T.setTop (mkF m 48 #[.val (.int i0), .val (.long j1), .second] [(.long u0), (.long u1)])) (Fini own_D Z n0 s own_R1 (some (.long (f1_48 i0 u0 u1))) A) := by
  unfold f1_48
  refine i_lor (pc' := 49) K X d1_48 rfl ?_
  refine i_lstoreN (pc' := 50) (Ls' := #[.val (.int i0), .val (.long (u1 ||| u0)), .second]) K X d1_49 rfl rfl ?_
  refine i_lloadN (pc' := 51) K X d1_50 rfl rfl ?_
  refine i_iloadN (pc' := 52) K X d1_51 rfl rfl ?_
  refine i_bipush (pc' := 54) (v := (8 : Int32)) K X d1_52 rfl rfl ?_
  refine i_iand (pc' := 55) K X d1_54 rfl ?_
  by_cases hc55 : (i0 &&& (8 : Int32)) = (0 : Int32)
  · rw [if_pos hc55]
    refine i_ifYes (pc' := 64) K X d1_55 (teq hc55).1 (by decide) (by decide) ?_
    refine i_lconst (pc' := 65) (v := (0 : Int64)) K X d1_64 rfl rfl ?_
    exact w1_65 K X i0 (u1 ||| u0) (0 : Int64) (u1 ||| u0) (show cells + 0 ≤ 0 by omega) (show slots + 0 ≤ 0 by omega)
  · rw [if_neg hc55]
    refine i_ifNo (pc' := 58) K X d1_55 rfl (feq hc55).1 ?_
    refine ldcL (pc' := 61) (v := (4278190080 : Int64)) K X (i := 19) rfl d1_58 rfl ?_
    refine i_goto (pc' := 65) K X d1_61 (by decide) (by decide) ?_
    exact w1_65 K X i0 (u1 ||| u0) (4278190080 : Int64) (u1 ||| u0) (show cells + 0 ≤ 0 by omega) (show slots + 0 ≤ 0 by omega)
def f1_32 (i0 : Int32) (u0 : Int64) (u1 : Int64) : Int64 :=
  if (i0 &&& (4 : Int32)) = (0 : Int32) then (f1_48 i0 (0 : Int64) (u1 ||| u0))
  else (f1_48 i0 (16711680 : Int64) (u1 ||| u0))
set_option maxRecDepth 65536 in
set_option maxHeartbeats 4000000 in
theorem w1_32 (K : Cx p l e own_R1 s m meth c Z a0 tables_1 "com/example/mopac/mopac/core/AlignmentFilterHoldsZeroMaskingLastPinLaw" "spread" method_4_code 3 (some .long)) (X : On p l e own_R1 s m args below meth c own_D Z n0 T A cells slots) (i0 : Int32) (j1 : Int64) (u0 : Int64) (u1 : Int64) (hc : cells + 0 ≤ 0) (hs : slots + 0 ≤ 0) :
    Go p e below (T.setTop (mkF m 32 #[.val (.int i0), .val (.long j1), .second] [(.long u0), (.long u1)])) (Fini own_D Z n0 s own_R1 (some (.long (f1_32 i0 u0 u1))) A) := by
  unfold f1_32
  refine i_lor (pc' := 33) K X d1_32 rfl ?_
  refine i_lstoreN (pc' := 34) (Ls' := #[.val (.int i0), .val (.long (u1 ||| u0)), .second]) K X d1_33 rfl rfl ?_
  refine i_lloadN (pc' := 35) K X d1_34 rfl rfl ?_
  refine i_iloadN (pc' := 36) K X d1_35 rfl rfl ?_
  refine i_iconst (pc' := 37) (v := (4 : Int32)) K X d1_36 rfl rfl ?_
  refine i_iand (pc' := 38) K X d1_37 rfl ?_
  by_cases hc38 : (i0 &&& (4 : Int32)) = (0 : Int32)
  · rw [if_pos hc38]
    refine i_ifYes (pc' := 47) K X d1_38 (teq hc38).1 (by decide) (by decide) ?_
    refine i_lconst (pc' := 48) (v := (0 : Int64)) K X d1_47 rfl rfl ?_
    exact w1_48 K X i0 (u1 ||| u0) (0 : Int64) (u1 ||| u0) (show cells + 0 ≤ 0 by omega) (show slots + 0 ≤ 0 by omega)
  · rw [if_neg hc38]
    refine i_ifNo (pc' := 41) K X d1_38 rfl (feq hc38).1 ?_
    refine ldcL (pc' := 44) (v := (16711680 : Int64)) K X (i := 18) rfl d1_41 rfl ?_
    refine i_goto (pc' := 48) K X d1_44 (by decide) (by decide) ?_
    exact w1_48 K X i0 (u1 ||| u0) (16711680 : Int64) (u1 ||| u0) (show cells + 0 ≤ 0 by omega) (show slots + 0 ≤ 0 by omega)
def f1_16 (i0 : Int32) (u0 : Int64) (u1 : Int64) : Int64 :=
  if (i0 &&& (2 : Int32)) = (0 : Int32) then (f1_32 i0 (0 : Int64) (u1 ||| u0))
  else (f1_32 i0 (65280 : Int64) (u1 ||| u0))
set_option maxRecDepth 65536 in
set_option maxHeartbeats 4000000 in
theorem w1_16 (K : Cx p l e own_R1 s m meth c Z a0 tables_1 "com/example/mopac/mopac/core/AlignmentFilterHoldsZeroMaskingLastPinLaw" "spread" method_4_code 3 (some .long)) (X : On p l e own_R1 s m args below meth c own_D Z n0 T A cells slots) (i0 : Int32) (j1 : Int64) (u0 : Int64) (u1 : Int64) (hc : cells + 0 ≤ 0) (hs : slots + 0 ≤ 0) :
    Go p e below (T.setTop (mkF m 16 #[.val (.int i0), .val (.long j1), .second] [(.long u0), (.long u1)])) (Fini own_D Z n0 s own_R1 (some (.long (f1_16 i0 u0 u1))) A) := by
  unfold f1_16
  refine i_lor (pc' := 17) K X d1_16 rfl ?_
  refine i_lstoreN (pc' := 18) (Ls' := #[.val (.int i0), .val (.long (u1 ||| u0)), .second]) K X d1_17 rfl rfl ?_
  refine i_lloadN (pc' := 19) K X d1_18 rfl rfl ?_
  refine i_iloadN (pc' := 20) K X d1_19 rfl rfl ?_
  refine i_iconst (pc' := 21) (v := (2 : Int32)) K X d1_20 rfl rfl ?_
  refine i_iand (pc' := 22) K X d1_21 rfl ?_
  by_cases hc22 : (i0 &&& (2 : Int32)) = (0 : Int32)
  · rw [if_pos hc22]
    refine i_ifYes (pc' := 31) K X d1_22 (teq hc22).1 (by decide) (by decide) ?_
    refine i_lconst (pc' := 32) (v := (0 : Int64)) K X d1_31 rfl rfl ?_
    exact w1_32 K X i0 (u1 ||| u0) (0 : Int64) (u1 ||| u0) (show cells + 0 ≤ 0 by omega) (show slots + 0 ≤ 0 by omega)
  · rw [if_neg hc22]
    refine i_ifNo (pc' := 25) K X d1_22 rfl (feq hc22).1 ?_
    refine ldcL (pc' := 28) (v := (65280 : Int64)) K X (i := 6) rfl d1_25 rfl ?_
    refine i_goto (pc' := 32) K X d1_28 (by decide) (by decide) ?_
    exact w1_32 K X i0 (u1 ||| u0) (65280 : Int64) (u1 ||| u0) (show cells + 0 ≤ 0 by omega) (show slots + 0 ≤ 0 by omega)
def f1_0 (i0 : Int32) : Int64 :=
  if (i0 &&& (1 : Int32)) = (0 : Int32) then (f1_16 i0 (0 : Int64) (0 : Int64))
  else (f1_16 i0 (255 : Int64) (0 : Int64))
set_option maxRecDepth 65536 in
set_option maxHeartbeats 4000000 in
theorem w1_0 (K : Cx p l e own_R1 s m meth c Z a0 tables_1 "com/example/mopac/mopac/core/AlignmentFilterHoldsZeroMaskingLastPinLaw" "spread" method_4_code 3 (some .long)) (X : On p l e own_R1 s m args below meth c own_D Z n0 T A cells slots) (i0 : Int32) (hc : cells + 0 ≤ 0) (hs : slots + 0 ≤ 0) :
    Go p e below (T.setTop (mkF m 0 #[.val (.int i0), .unset, .unset] [])) (Fini own_D Z n0 s own_R1 (some (.long (f1_0 i0))) A) := by
  unfold f1_0
  refine i_lconst (pc' := 1) (v := (0 : Int64)) K X d1_0 rfl rfl ?_
  refine i_lstoreN (pc' := 2) (Ls' := #[.val (.int i0), .val (.long (0 : Int64)), .second]) K X d1_1 rfl rfl ?_
  refine i_lloadN (pc' := 3) K X d1_2 rfl rfl ?_
  refine i_iloadN (pc' := 4) K X d1_3 rfl rfl ?_
  refine i_iconst (pc' := 5) (v := (1 : Int32)) K X d1_4 rfl rfl ?_
  refine i_iand (pc' := 6) K X d1_5 rfl ?_
  by_cases hc6 : (i0 &&& (1 : Int32)) = (0 : Int32)
  · rw [if_pos hc6]
    refine i_ifYes (pc' := 15) K X d1_6 (teq hc6).1 (by decide) (by decide) ?_
    refine i_lconst (pc' := 16) (v := (0 : Int64)) K X d1_15 rfl rfl ?_
    exact w1_16 K X i0 (0 : Int64) (0 : Int64) (0 : Int64) (show cells + 0 ≤ 0 by omega) (show slots + 0 ≤ 0 by omega)
  · rw [if_neg hc6]
    refine i_ifNo (pc' := 9) K X d1_6 rfl (feq hc6).1 ?_
    refine ldcL (pc' := 12) (v := (255 : Int64)) K X (i := 5) rfl d1_9 rfl ?_
    refine i_goto (pc' := 16) K X d1_12 (by decide) (by decide) ?_
    exact w1_16 K X i0 (0 : Int64) (255 : Int64) (0 : Int64) (show cells + 0 ≤ 0 by omega) (show slots + 0 ≤ 0 by omega)
theorem pn_1 : plainName "com/example/mopac/mopac/core/AlignmentFilterHoldsZeroMaskingLastPinLaw" = true := by first | (simp [plainName, overriddenIn]; done) | decide +kernel
theorem rm1 {l : Launch} {Z : State} {a0 : Array Value} {n0 : Nat} (hw : ∀ d ∈ tables_1, d.before a0 Z = true) (A : AH) (i0 : Int32) :
    Met l own_D Z n0 (⟨"com/example/mopac/mopac/core/AlignmentFilterHoldsZeroMaskingLastPinLaw", "spread", "(I)J"⟩ : MethodName) method_4_code 3 (some .long) own_R1 [(.int i0)] A (some (.long (f1_0 i0))) A :=
  met (W := tables_1) (a0 := a0) (own := "com/example/mopac/mopac/core/AlignmentFilterHoldsZeroMaskingLastPinLaw") (nm := "spread") (L0 := #[.val (.int i0), .unset, .unset]) (plainFor_of_name pn_1) hw rfl rfl (fun m => by first | (simp [entryFrame, mkF, argsToLocals, Value.category]; done) | rfl) (fun p e s m below meth c T K X => w1_0 K X i0 (show 0 + 0 ≤ 0 by decide) (show 0 + 0 ≤ 0 by decide))
/-! body 2: AlignmentFilterHoldsZeroMaskingLastPinLaw.byteZero(JI)Z -/
theorem d2_0 : decode method_3_code 0 = .ok (.lload_n 0, 1) := by decide +kernel
theorem d2_1 : decode method_3_code 1 = .ok (.iload_n 2, 1) := by decide +kernel
theorem d2_2 : decode method_3_code 2 = .ok (.lushr, 1) := by decide +kernel
theorem d2_3 : decode method_3_code 3 = .ok (.ldc2_w 27, 3) := by decide +kernel
theorem d2_6 : decode method_3_code 6 = .ok (.land, 1) := by decide +kernel
theorem d2_7 : decode method_3_code 7 = .ok (.lconst 0, 1) := by decide +kernel
theorem d2_8 : decode method_3_code 8 = .ok (.lcmp, 1) := by decide +kernel
theorem d2_9 : decode method_3_code 9 = .ok (.ifCond .ne 7, 3) := by decide +kernel
theorem d2_12 : decode method_3_code 12 = .ok (.iconst 1, 1) := by decide +kernel
theorem d2_13 : decode method_3_code 13 = .ok (.goto 4, 3) := by decide +kernel
theorem d2_16 : decode method_3_code 16 = .ok (.iconst 0, 1) := by decide +kernel
theorem d2_17 : decode method_3_code 17 = .ok (.ireturn, 1) := by decide +kernel
theorem pd_2 : parseMethodDescriptor "(JI)Z" = some ⟨[.long, .int], some .boolean⟩ := by decide +kernel
abbrev own_R2 : Room := { frames := 0, cells := 0, slots := 0, locals := 0 }
def f2_17 (s0 : Int32) : Int32 :=
  (nar .boolean s0)
set_option maxRecDepth 65536 in
set_option maxHeartbeats 4000000 in
theorem w2_17 (K : Cx p l e own_R2 s m meth c Z a0 tables_1 "com/example/mopac/mopac/core/AlignmentFilterHoldsZeroMaskingLastPinLaw" "byteZero" method_3_code 3 (some .boolean)) (X : On p l e own_R2 s m args below meth c own_D Z n0 T A cells slots) (j0 : Int64) (i2 : Int32) (s0 : Int32) (hc : cells + 0 ≤ 0) (hs : slots + 0 ≤ 0) :
    Go p e below (T.setTop (mkF m 17 #[.val (.long j0), .second, .val (.int i2)] [(.int s0)])) (Fini own_D Z n0 s own_R2 (some (.int (f2_17 s0))) A) := by
  unfold f2_17
  exact retB K (by simp) X (show cells ≤ 0 by omega) (show slots ≤ 0 by omega) d2_17
def f2_3 (u0 : Int64) : Int32 :=
  if (u0 &&& (255 : Int64)) = (0 : Int64) then (f2_17 (1 : Int32))
  else (f2_17 (0 : Int32))
set_option maxRecDepth 65536 in
set_option maxHeartbeats 4000000 in
theorem w2_3 (K : Cx p l e own_R2 s m meth c Z a0 tables_1 "com/example/mopac/mopac/core/AlignmentFilterHoldsZeroMaskingLastPinLaw" "byteZero" method_3_code 3 (some .boolean)) (X : On p l e own_R2 s m args below meth c own_D Z n0 T A cells slots) (j0 : Int64) (i2 : Int32) (u0 : Int64) (hc : cells + 0 ≤ 0) (hs : slots + 0 ≤ 0) :
    Go p e below (T.setTop (mkF m 3 #[.val (.long j0), .second, .val (.int i2)] [(.long u0)])) (Fini own_D Z n0 s own_R2 (some (.int (f2_3 u0))) A) := by
  unfold f2_3
  refine ldcL (pc' := 6) (v := (255 : Int64)) K X (i := 5) rfl d2_3 rfl ?_
  refine i_land (pc' := 7) K X d2_6 rfl ?_
  refine i_lconst (pc' := 8) (v := (0 : Int64)) K X d2_7 rfl rfl ?_
  refine i_lcmp (pc' := 9) K X d2_8 rfl ?_
  by_cases hc9 : (u0 &&& (255 : Int64)) = (0 : Int64)
  · rw [if_pos hc9]
    refine i_ifNo (pc' := 12) K X d2_9 rfl (teq ((lw_eq _ _).mpr hc9)).2 ?_
    refine i_iconst (pc' := 13) (v := (1 : Int32)) K X d2_12 rfl rfl ?_
    refine i_goto (pc' := 17) K X d2_13 (by decide) (by decide) ?_
    exact w2_17 K X j0 i2 (1 : Int32) (show cells + 0 ≤ 0 by omega) (show slots + 0 ≤ 0 by omega)
  · rw [if_neg hc9]
    refine i_ifYes (pc' := 16) K X d2_9 (feq (fun z => hc9 ((lw_eq _ _).mp z))).2 (by decide) (by decide) ?_
    refine i_iconst (pc' := 17) (v := (0 : Int32)) K X d2_16 rfl rfl ?_
    exact w2_17 K X j0 i2 (0 : Int32) (show cells + 0 ≤ 0 by omega) (show slots + 0 ≤ 0 by omega)
def f2_0 (j0 : Int64) (i2 : Int32) : Int32 :=
  f2_3 (((j0).toUInt64 >>> (i2 &&& 0x3f).toInt64.toUInt64).toInt64)
set_option maxRecDepth 65536 in
set_option maxHeartbeats 4000000 in
theorem w2_0 (K : Cx p l e own_R2 s m meth c Z a0 tables_1 "com/example/mopac/mopac/core/AlignmentFilterHoldsZeroMaskingLastPinLaw" "byteZero" method_3_code 3 (some .boolean)) (X : On p l e own_R2 s m args below meth c own_D Z n0 T A cells slots) (j0 : Int64) (i2 : Int32) (hc : cells + 0 ≤ 0) (hs : slots + 0 ≤ 0) :
    Go p e below (T.setTop (mkF m 0 #[.val (.long j0), .second, .val (.int i2)] [])) (Fini own_D Z n0 s own_R2 (some (.int (f2_0 j0 i2))) A) := by
  unfold f2_0
  refine i_lloadN (pc' := 1) K X d2_0 rfl rfl ?_
  refine i_iloadN (pc' := 2) K X d2_1 rfl rfl ?_
  refine i_lushr (pc' := 3) K X d2_2 rfl ?_
  exact w2_3 K X j0 i2 (((j0).toUInt64 >>> (i2 &&& 0x3f).toInt64.toUInt64).toInt64) (show cells + 0 ≤ 0 by omega) (show slots + 0 ≤ 0 by omega)
theorem pn_2 : plainName "com/example/mopac/mopac/core/AlignmentFilterHoldsZeroMaskingLastPinLaw" = true := by first | (simp [plainName, overriddenIn]; done) | decide +kernel
theorem rm2 {l : Launch} {Z : State} {a0 : Array Value} {n0 : Nat} (hw : ∀ d ∈ tables_1, d.before a0 Z = true) (A : AH) (j0 : Int64) (i2 : Int32) :
    Met l own_D Z n0 (⟨"com/example/mopac/mopac/core/AlignmentFilterHoldsZeroMaskingLastPinLaw", "byteZero", "(JI)Z"⟩ : MethodName) method_3_code 3 (some .boolean) own_R2 [(.long j0), (.int i2)] A (some (.int (f2_0 j0 i2))) A :=
  met (W := tables_1) (a0 := a0) (own := "com/example/mopac/mopac/core/AlignmentFilterHoldsZeroMaskingLastPinLaw") (nm := "byteZero") (L0 := #[.val (.long j0), .second, .val (.int i2)]) (plainFor_of_name pn_2) hw rfl rfl (fun m => by first | (simp [entryFrame, mkF, argsToLocals, Value.category]; done) | rfl) (fun p e s m below meth c T K X => w2_0 K X j0 i2 (show 0 + 0 ≤ 0 by decide) (show 0 + 0 ≤ 0 by decide))
/-! body 3: AlignmentFilter.holdsZeroMaskingLast(J)Z -/
theorem d3_0 : decode prog_12_method_13_code 0 = .ok (.lload_n 0, 1) := by decide +kernel
theorem d3_1 : decode prog_12_method_13_code 1 = .ok (.ldc2_w 72, 3) := by decide +kernel
theorem d3_4 : decode prog_12_method_13_code 4 = .ok (.lsub, 1) := by decide +kernel
theorem d3_5 : decode prog_12_method_13_code 5 = .ok (.lload_n 0, 1) := by decide +kernel
theorem d3_6 : decode prog_12_method_13_code 6 = .ok (.ldc2_w 84, 3) := by decide +kernel
theorem d3_9 : decode prog_12_method_13_code 9 = .ok (.lxor, 1) := by decide +kernel
theorem d3_10 : decode prog_12_method_13_code 10 = .ok (.land, 1) := by decide +kernel
theorem d3_11 : decode prog_12_method_13_code 11 = .ok (.ldc2_w 86, 3) := by decide +kernel
theorem d3_14 : decode prog_12_method_13_code 14 = .ok (.land, 1) := by decide +kernel
theorem d3_15 : decode prog_12_method_13_code 15 = .ok (.lconst 0, 1) := by decide +kernel
theorem d3_16 : decode prog_12_method_13_code 16 = .ok (.lcmp, 1) := by decide +kernel
theorem d3_17 : decode prog_12_method_13_code 17 = .ok (.ifCond .eq 7, 3) := by decide +kernel
theorem d3_20 : decode prog_12_method_13_code 20 = .ok (.iconst 1, 1) := by decide +kernel
theorem d3_21 : decode prog_12_method_13_code 21 = .ok (.goto 4, 3) := by decide +kernel
theorem d3_24 : decode prog_12_method_13_code 24 = .ok (.iconst 0, 1) := by decide +kernel
theorem d3_25 : decode prog_12_method_13_code 25 = .ok (.ireturn, 1) := by decide +kernel
theorem pd_3 : parseMethodDescriptor "(J)Z" = some ⟨[.long], some .boolean⟩ := by decide +kernel
abbrev own_R3 : Room := { frames := 0, cells := 0, slots := 0, locals := 0 }
def f3_25 (s0 : Int32) : Int32 :=
  (nar .boolean s0)
set_option maxRecDepth 65536 in
set_option maxHeartbeats 4000000 in
theorem w3_25 (K : Cx p l e own_R3 s m meth c Z a0 tables_1 "com/example/mopac/mopac/core/AlignmentFilter" "holdsZeroMaskingLast" prog_12_method_13_code 2 (some .boolean)) (X : On p l e own_R3 s m args below meth c own_D Z n0 T A cells slots) (j0 : Int64) (s0 : Int32) (hc : cells + 0 ≤ 0) (hs : slots + 0 ≤ 0) :
    Go p e below (T.setTop (mkF m 25 #[.val (.long j0), .second] [(.int s0)])) (Fini own_D Z n0 s own_R3 (some (.int (f3_25 s0))) A) := by
  unfold f3_25
  exact retB K (by simp) X (show cells ≤ 0 by omega) (show slots ≤ 0 by omega) d3_25
def f3_11 (u0 : Int64) : Int32 :=
  if (u0 &&& (-9187201950435737472 : Int64)) = (0 : Int64) then (f3_25 (0 : Int32))
  else (f3_25 (1 : Int32))
set_option maxRecDepth 65536 in
set_option maxHeartbeats 4000000 in
theorem w3_11 (K : Cx p l e own_R3 s m meth c Z a0 tables_1 "com/example/mopac/mopac/core/AlignmentFilter" "holdsZeroMaskingLast" prog_12_method_13_code 2 (some .boolean)) (X : On p l e own_R3 s m args below meth c own_D Z n0 T A cells slots) (j0 : Int64) (u0 : Int64) (hc : cells + 0 ≤ 0) (hs : slots + 0 ≤ 0) :
    Go p e below (T.setTop (mkF m 11 #[.val (.long j0), .second] [(.long u0)])) (Fini own_D Z n0 s own_R3 (some (.int (f3_11 u0))) A) := by
  unfold f3_11
  refine ldcL (pc' := 14) (v := (-9187201950435737472 : Int64)) K X (i := 17) rfl d3_11 rfl ?_
  refine i_land (pc' := 15) K X d3_14 rfl ?_
  refine i_lconst (pc' := 16) (v := (0 : Int64)) K X d3_15 rfl rfl ?_
  refine i_lcmp (pc' := 17) K X d3_16 rfl ?_
  by_cases hc17 : (u0 &&& (-9187201950435737472 : Int64)) = (0 : Int64)
  · rw [if_pos hc17]
    refine i_ifYes (pc' := 24) K X d3_17 (teq ((lw_eq _ _).mpr hc17)).1 (by decide) (by decide) ?_
    refine i_iconst (pc' := 25) (v := (0 : Int32)) K X d3_24 rfl rfl ?_
    exact w3_25 K X j0 (0 : Int32) (show cells + 0 ≤ 0 by omega) (show slots + 0 ≤ 0 by omega)
  · rw [if_neg hc17]
    refine i_ifNo (pc' := 20) K X d3_17 rfl (feq (fun z => hc17 ((lw_eq _ _).mp z))).1 ?_
    refine i_iconst (pc' := 21) (v := (1 : Int32)) K X d3_20 rfl rfl ?_
    refine i_goto (pc' := 25) K X d3_21 (by decide) (by decide) ?_
    exact w3_25 K X j0 (1 : Int32) (show cells + 0 ≤ 0 by omega) (show slots + 0 ≤ 0 by omega)
def f3_0 (j0 : Int64) : Int32 :=
  f3_11 ((j0 - (72340172838076673 : Int64)) &&& (j0 ^^^ (-1 : Int64)))
set_option maxRecDepth 65536 in
set_option maxHeartbeats 4000000 in
theorem w3_0 (K : Cx p l e own_R3 s m meth c Z a0 tables_1 "com/example/mopac/mopac/core/AlignmentFilter" "holdsZeroMaskingLast" prog_12_method_13_code 2 (some .boolean)) (X : On p l e own_R3 s m args below meth c own_D Z n0 T A cells slots) (j0 : Int64) (hc : cells + 0 ≤ 0) (hs : slots + 0 ≤ 0) :
    Go p e below (T.setTop (mkF m 0 #[.val (.long j0), .second] [])) (Fini own_D Z n0 s own_R3 (some (.int (f3_0 j0))) A) := by
  unfold f3_0
  refine i_lloadN (pc' := 1) K X d3_0 rfl rfl ?_
  refine ldcL (pc' := 4) (v := (72340172838076673 : Int64)) K X (i := 15) rfl d3_1 rfl ?_
  refine i_lsub (pc' := 5) K X d3_4 rfl ?_
  refine i_lloadN (pc' := 6) K X d3_5 rfl rfl ?_
  refine ldcL (pc' := 9) (v := (-1 : Int64)) K X (i := 16) rfl d3_6 rfl ?_
  refine i_lxor (pc' := 10) K X d3_9 rfl ?_
  refine i_land (pc' := 11) K X d3_10 rfl ?_
  exact w3_11 K X j0 ((j0 - (72340172838076673 : Int64)) &&& (j0 ^^^ (-1 : Int64))) (show cells + 0 ≤ 0 by omega) (show slots + 0 ≤ 0 by omega)
theorem pn_3 : plainName "com/example/mopac/mopac/core/AlignmentFilter" = true := by first | (simp [plainName, overriddenIn]; done) | decide +kernel
theorem rm3 {l : Launch} {Z : State} {a0 : Array Value} {n0 : Nat} (hw : ∀ d ∈ tables_1, d.before a0 Z = true) (A : AH) (j0 : Int64) :
    Met l own_D Z n0 (⟨"com/example/mopac/mopac/core/AlignmentFilter", "holdsZeroMaskingLast", "(J)Z"⟩ : MethodName) prog_12_method_13_code 2 (some .boolean) own_R3 [(.long j0)] A (some (.int (f3_0 j0))) A :=
  met (W := tables_1) (a0 := a0) (own := "com/example/mopac/mopac/core/AlignmentFilter") (nm := "holdsZeroMaskingLast") (L0 := #[.val (.long j0), .second]) (plainFor_of_name pn_3) hw rfl rfl (fun m => by first | (simp [entryFrame, mkF, argsToLocals, Value.category]; done) | rfl) (fun p e s m below meth c T K X => w3_0 K X j0 (show 0 + 0 ≤ 0 by decide) (show 0 + 0 ≤ 0 by decide))
def f0_158 (s0 : Int32) : Int32 :=
  (nar .boolean s0)
set_option maxRecDepth 65536 in
set_option maxHeartbeats 4000000 in
theorem w0_158 (K : Cx p l e room_1 s m meth c Z a0 tables_1 "com/example/mopac/mopac/core/AlignmentFilterHoldsZeroMaskingLastPinLaw" "law" code maxLocals ret) (X : On p l e room_1 s m args below meth c own_D Z n0 T A cells slots) (j0 : Int64) (i2 : Int32) (i3 : Int32) (i4 : Int32) (i5 : Int32) (i6 : Int32) (j7 : Int64) (j9 : Int64) (i11 : Int32) (s0 : Int32) (hc : cells + 0 ≤ 0) (hs : slots + 0 ≤ 0) :
    Go p e below (T.setTop (mkF m 158 #[.val (.long j0), .second, .val (.int i2), .val (.int i3), .val (.int i4), .val (.int i5), .val (.int i6), .val (.long j7), .second, .val (.long j9), .second, .val (.int i11)] [(.int s0)])) (Fini own_D Z n0 s room_1 (some (.int (f0_158 s0))) A) := by
  unfold f0_158
  exact retB K (by simp) X (show cells ≤ 0 by omega) (show slots ≤ 0 by omega) at_158
def f0_141 (j9 : Int64) (s0 : Int32) : Int32 :=
  if (f3_0 j9) = s0 then (f0_158 (1 : Int32))
  else (f0_158 (0 : Int32))
set_option maxRecDepth 65536 in
set_option maxHeartbeats 4000000 in
theorem w0_141 (K : Cx p l e room_1 s m meth c Z a0 tables_1 "com/example/mopac/mopac/core/AlignmentFilterHoldsZeroMaskingLastPinLaw" "law" code maxLocals ret) (X : On p l e room_1 s m args below meth c own_D Z n0 T A cells slots) (j0 : Int64) (i2 : Int32) (i3 : Int32) (i4 : Int32) (i5 : Int32) (i6 : Int32) (j7 : Int64) (j9 : Int64) (s0 : Int32) (hc : cells + 0 ≤ 0) (hs : slots + 0 ≤ 0) :
    Go p e below (T.setTop (mkF m 141 #[.val (.long j0), .second, .val (.int i2), .val (.int i3), .val (.int i4), .val (.int i5), .val (.int i6), .val (.long j7), .second, .val (.long j9), .second, .unset] [(.int s0)])) (Fini own_D Z n0 s room_1 (some (.int (f0_141 j9 s0))) A) := by
  unfold f0_141
  refine i_istore (pc' := 143) (Ls' := #[.val (.long j0), .second, .val (.int i2), .val (.int i3), .val (.int i4), .val (.int i5), .val (.int i6), .val (.long j7), .second, .val (.long j9), .second, .val (.int s0)]) K X at_141 rfl rfl ?_
  refine i_lload (pc' := 145) K X at_143 rfl rfl ?_
  refine calls (pc' := 148) (kc := cells) (ks := slots) (S' := [(.int (f3_0 j9))]) (st := []) K X (i1 := 11) rfl (i2 := 12) rfl (i3 := 13) rfl (i4 := 14) rfl (by decide) (rm3 (l := l) (n0 := n0) (K.2.2.2.2.2.2.2.2) A j9) pd_3 rfl at_145 rfl rfl (by decide) (w := 0) (Nat.le_of_eq rfl) (by decide) (show cells + 0 ≤ 0 by omega) (show slots + 0 ≤ 0 by omega) rfl rfl rfl rfl (fun T1 X1 => ?_)
  refine i_iload (pc' := 150) K X1 at_148 rfl rfl ?_
  by_cases hc150 : (f3_0 j9) = s0
  · rw [if_pos hc150]
    refine i_icmpNo (pc' := 153) K X1 at_150 rfl (teq hc150).2 ?_
    refine i_iconst (pc' := 154) (v := (1 : Int32)) K X1 at_153 rfl rfl ?_
    refine i_goto (pc' := 158) K X1 at_154 (by decide) (by decide) ?_
    exact w0_158 K X1 j0 i2 i3 i4 i5 i6 j7 j9 s0 (1 : Int32) (show cells + 0 ≤ 0 by omega) (show slots + 0 ≤ 0 by omega)
  · rw [if_neg hc150]
    refine i_icmpYes (pc' := 157) K X1 at_150 (feq hc150).2 (by decide) (by decide) ?_
    refine i_iconst (pc' := 158) (v := (0 : Int32)) K X1 at_157 rfl rfl ?_
    exact w0_158 K X1 j0 i2 i3 i4 i5 i6 j7 j9 s0 (0 : Int32) (show cells + 0 ≤ 0 by omega) (show slots + 0 ≤ 0 by omega)
def f0_136 (j9 : Int64) : Int32 :=
  f0_141 j9 (1 : Int32)
set_option maxRecDepth 65536 in
set_option maxHeartbeats 4000000 in
theorem w0_136 (K : Cx p l e room_1 s m meth c Z a0 tables_1 "com/example/mopac/mopac/core/AlignmentFilterHoldsZeroMaskingLastPinLaw" "law" code maxLocals ret) (X : On p l e room_1 s m args below meth c own_D Z n0 T A cells slots) (j0 : Int64) (i2 : Int32) (i3 : Int32) (i4 : Int32) (i5 : Int32) (i6 : Int32) (j7 : Int64) (j9 : Int64) (hc : cells + 0 ≤ 0) (hs : slots + 0 ≤ 0) :
    Go p e below (T.setTop (mkF m 136 #[.val (.long j0), .second, .val (.int i2), .val (.int i3), .val (.int i4), .val (.int i5), .val (.int i6), .val (.long j7), .second, .val (.long j9), .second, .unset] [])) (Fini own_D Z n0 s room_1 (some (.int (f0_136 j9))) A) := by
  unfold f0_136
  refine i_iconst (pc' := 137) (v := (1 : Int32)) K X at_136 rfl rfl ?_
  refine i_goto (pc' := 141) K X at_137 (by decide) (by decide) ?_
  exact w0_141 K X j0 i2 i3 i4 i5 i6 j7 j9 (1 : Int32) (show cells + 0 ≤ 0 by omega) (show slots + 0 ≤ 0 by omega)
def f0_128 (j9 : Int64) (u0 : Int64) : Int32 :=
  if (f2_0 u0 (56 : Int32)) = (0 : Int32) then (f0_141 j9 (0 : Int32))
  else (f0_136 j9)
set_option maxRecDepth 65536 in
set_option maxHeartbeats 4000000 in
theorem w0_128 (K : Cx p l e room_1 s m meth c Z a0 tables_1 "com/example/mopac/mopac/core/AlignmentFilterHoldsZeroMaskingLastPinLaw" "law" code maxLocals ret) (X : On p l e room_1 s m args below meth c own_D Z n0 T A cells slots) (j0 : Int64) (i2 : Int32) (i3 : Int32) (i4 : Int32) (i5 : Int32) (i6 : Int32) (j7 : Int64) (j9 : Int64) (u0 : Int64) (hc : cells + 0 ≤ 0) (hs : slots + 0 ≤ 0) :
    Go p e below (T.setTop (mkF m 128 #[.val (.long j0), .second, .val (.int i2), .val (.int i3), .val (.int i4), .val (.int i5), .val (.int i6), .val (.long j7), .second, .val (.long j9), .second, .unset] [(.long u0)])) (Fini own_D Z n0 s room_1 (some (.int (f0_128 j9 u0))) A) := by
  unfold f0_128
  refine i_bipush (pc' := 130) (v := (56 : Int32)) K X at_128 rfl rfl ?_
  refine calls (pc' := 133) (kc := cells) (ks := slots) (S' := [(.int (f2_0 u0 (56 : Int32)))]) (st := []) K X (i1 := 8) rfl (i2 := 9) rfl (i3 := 3) rfl (i4 := 10) rfl (by decide) (rm2 (l := l) (n0 := n0) (K.2.2.2.2.2.2.2.2) A u0 (56 : Int32)) pd_2 rfl at_130 rfl rfl (by decide) (w := 0) (Nat.le_of_eq rfl) (by decide) (show cells + 0 ≤ 0 by omega) (show slots + 0 ≤ 0 by omega) rfl rfl rfl rfl (fun T1 X1 => ?_)
  by_cases hc133 : (f2_0 u0 (56 : Int32)) = (0 : Int32)
  · rw [if_pos hc133]
    refine i_ifYes (pc' := 140) K X1 at_133 (teq hc133).1 (by decide) (by decide) ?_
    refine i_iconst (pc' := 141) (v := (0 : Int32)) K X1 at_140 rfl rfl ?_
    exact w0_141 K X1 j0 i2 i3 i4 i5 i6 j7 j9 (0 : Int32) (show cells + 0 ≤ 0 by omega) (show slots + 0 ≤ 0 by omega)
  · rw [if_neg hc133]
    refine i_ifNo (pc' := 136) K X1 at_133 rfl (feq hc133).1 ?_
    exact w0_136 K X1 j0 i2 i3 i4 i5 i6 j7 j9 (show cells + 0 ≤ 0 by omega) (show slots + 0 ≤ 0 by omega)
def f0_88 (j9 : Int64) (u0 : Int64) : Int32 :=
  if (f2_0 u0 (24 : Int32)) = (0 : Int32) then (if (f2_0 j9 (32 : Int32)) = (0 : Int32) then (if (f2_0 j9 (40 : Int32)) = (0 : Int32) then (if (f2_0 j9 (48 : Int32)) = (0 : Int32) then (f0_128 j9 j9)
  else (f0_136 j9))
  else (f0_136 j9))
  else (f0_136 j9))
  else (f0_136 j9)
set_option maxRecDepth 65536 in
set_option maxHeartbeats 4000000 in
theorem w0_88 (K : Cx p l e room_1 s m meth c Z a0 tables_1 "com/example/mopac/mopac/core/AlignmentFilterHoldsZeroMaskingLastPinLaw" "law" code maxLocals ret) (X : On p l e room_1 s m args below meth c own_D Z n0 T A cells slots) (j0 : Int64) (i2 : Int32) (i3 : Int32) (i4 : Int32) (i5 : Int32) (i6 : Int32) (j7 : Int64) (j9 : Int64) (u0 : Int64) (hc : cells + 0 ≤ 0) (hs : slots + 0 ≤ 0) :
    Go p e below (T.setTop (mkF m 88 #[.val (.long j0), .second, .val (.int i2), .val (.int i3), .val (.int i4), .val (.int i5), .val (.int i6), .val (.long j7), .second, .val (.long j9), .second, .unset] [(.long u0)])) (Fini own_D Z n0 s room_1 (some (.int (f0_88 j9 u0))) A) := by
  unfold f0_88
  refine i_bipush (pc' := 90) (v := (24 : Int32)) K X at_88 rfl rfl ?_
  refine calls (pc' := 93) (kc := cells) (ks := slots) (S' := [(.int (f2_0 u0 (24 : Int32)))]) (st := []) K X (i1 := 8) rfl (i2 := 9) rfl (i3 := 3) rfl (i4 := 10) rfl (by decide) (rm2 (l := l) (n0 := n0) (K.2.2.2.2.2.2.2.2) A u0 (24 : Int32)) pd_2 rfl at_90 rfl rfl (by decide) (w := 0) (Nat.le_of_eq rfl) (by decide) (show cells + 0 ≤ 0 by omega) (show slots + 0 ≤ 0 by omega) rfl rfl rfl rfl (fun T1 X1 => ?_)
  by_cases hc93 : (f2_0 u0 (24 : Int32)) = (0 : Int32)
  · rw [if_pos hc93]
    refine i_ifNo (pc' := 96) K X1 at_93 rfl (teq hc93).2 ?_
    refine i_lload (pc' := 98) K X1 at_96 rfl rfl ?_
    refine i_bipush (pc' := 100) (v := (32 : Int32)) K X1 at_98 rfl rfl ?_
    refine calls (pc' := 103) (kc := cells) (ks := slots) (S' := [(.int (f2_0 j9 (32 : Int32)))]) (st := []) K X1 (i1 := 8) rfl (i2 := 9) rfl (i3 := 3) rfl (i4 := 10) rfl (by decide) (rm2 (l := l) (n0 := n0) (K.2.2.2.2.2.2.2.2) A j9 (32 : Int32)) pd_2 rfl at_100 rfl rfl (by decide) (w := 0) (Nat.le_of_eq rfl) (by decide) (show cells + 0 ≤ 0 by omega) (show slots + 0 ≤ 0 by omega) rfl rfl rfl rfl (fun T2 X2 => ?_)
    by_cases hc103 : (f2_0 j9 (32 : Int32)) = (0 : Int32)
    · rw [if_pos hc103]
      refine i_ifNo (pc' := 106) K X2 at_103 rfl (teq hc103).2 ?_
      refine i_lload (pc' := 108) K X2 at_106 rfl rfl ?_
      refine i_bipush (pc' := 110) (v := (40 : Int32)) K X2 at_108 rfl rfl ?_
      refine calls (pc' := 113) (kc := cells) (ks := slots) (S' := [(.int (f2_0 j9 (40 : Int32)))]) (st := []) K X2 (i1 := 8) rfl (i2 := 9) rfl (i3 := 3) rfl (i4 := 10) rfl (by decide) (rm2 (l := l) (n0 := n0) (K.2.2.2.2.2.2.2.2) A j9 (40 : Int32)) pd_2 rfl at_110 rfl rfl (by decide) (w := 0) (Nat.le_of_eq rfl) (by decide) (show cells + 0 ≤ 0 by omega) (show slots + 0 ≤ 0 by omega) rfl rfl rfl rfl (fun T3 X3 => ?_)
      by_cases hc113 : (f2_0 j9 (40 : Int32)) = (0 : Int32)
      · rw [if_pos hc113]
        refine i_ifNo (pc' := 116) K X3 at_113 rfl (teq hc113).2 ?_
        refine i_lload (pc' := 118) K X3 at_116 rfl rfl ?_
        refine i_bipush (pc' := 120) (v := (48 : Int32)) K X3 at_118 rfl rfl ?_
        refine calls (pc' := 123) (kc := cells) (ks := slots) (S' := [(.int (f2_0 j9 (48 : Int32)))]) (st := []) K X3 (i1 := 8) rfl (i2 := 9) rfl (i3 := 3) rfl (i4 := 10) rfl (by decide) (rm2 (l := l) (n0 := n0) (K.2.2.2.2.2.2.2.2) A j9 (48 : Int32)) pd_2 rfl at_120 rfl rfl (by decide) (w := 0) (Nat.le_of_eq rfl) (by decide) (show cells + 0 ≤ 0 by omega) (show slots + 0 ≤ 0 by omega) rfl rfl rfl rfl (fun T4 X4 => ?_)
        by_cases hc123 : (f2_0 j9 (48 : Int32)) = (0 : Int32)
        · rw [if_pos hc123]
          refine i_ifNo (pc' := 126) K X4 at_123 rfl (teq hc123).2 ?_
          refine i_lload (pc' := 128) K X4 at_126 rfl rfl ?_
          exact w0_128 K X4 j0 i2 i3 i4 i5 i6 j7 j9 j9 (show cells + 0 ≤ 0 by omega) (show slots + 0 ≤ 0 by omega)
        · rw [if_neg hc123]
          refine i_ifYes (pc' := 136) K X4 at_123 (feq hc123).2 (by decide) (by decide) ?_
          exact w0_136 K X4 j0 i2 i3 i4 i5 i6 j7 j9 (show cells + 0 ≤ 0 by omega) (show slots + 0 ≤ 0 by omega)
      · rw [if_neg hc113]
        refine i_ifYes (pc' := 136) K X3 at_113 (feq hc113).2 (by decide) (by decide) ?_
        exact w0_136 K X3 j0 i2 i3 i4 i5 i6 j7 j9 (show cells + 0 ≤ 0 by omega) (show slots + 0 ≤ 0 by omega)
    · rw [if_neg hc103]
      refine i_ifYes (pc' := 136) K X2 at_103 (feq hc103).2 (by decide) (by decide) ?_
      exact w0_136 K X2 j0 i2 i3 i4 i5 i6 j7 j9 (show cells + 0 ≤ 0 by omega) (show slots + 0 ≤ 0 by omega)
  · rw [if_neg hc93]
    refine i_ifYes (pc' := 136) K X1 at_93 (feq hc93).2 (by decide) (by decide) ?_
    exact w0_136 K X1 j0 i2 i3 i4 i5 i6 j7 j9 (show cells + 0 ≤ 0 by omega) (show slots + 0 ≤ 0 by omega)
def f0_53 (u0 : Int64) (u1 : Int64) (u2 : Int64) : Int32 :=
  if (f2_0 (u2 ||| (u1 &&& u0)) (0 : Int32)) = (0 : Int32) then (if (f2_0 (u2 ||| (u1 &&& u0)) (8 : Int32)) = (0 : Int32) then (if (f2_0 (u2 ||| (u1 &&& u0)) (16 : Int32)) = (0 : Int32) then (f0_88 (u2 ||| (u1 &&& u0)) (u2 ||| (u1 &&& u0)))
  else (f0_136 (u2 ||| (u1 &&& u0))))
  else (f0_136 (u2 ||| (u1 &&& u0))))
  else (f0_136 (u2 ||| (u1 &&& u0)))
set_option maxRecDepth 65536 in
set_option maxHeartbeats 4000000 in
theorem w0_53 (K : Cx p l e room_1 s m meth c Z a0 tables_1 "com/example/mopac/mopac/core/AlignmentFilterHoldsZeroMaskingLastPinLaw" "law" code maxLocals ret) (X : On p l e room_1 s m args below meth c own_D Z n0 T A cells slots) (j0 : Int64) (i2 : Int32) (i3 : Int32) (i4 : Int32) (i5 : Int32) (i6 : Int32) (j7 : Int64) (u0 : Int64) (u1 : Int64) (u2 : Int64) (hc : cells + 0 ≤ 0) (hs : slots + 0 ≤ 0) :
    Go p e below (T.setTop (mkF m 53 #[.val (.long j0), .second, .val (.int i2), .val (.int i3), .val (.int i4), .val (.int i5), .val (.int i6), .val (.long j7), .second, .unset, .unset, .unset] [(.long u0), (.long u1), (.long u2)])) (Fini own_D Z n0 s room_1 (some (.int (f0_53 u0 u1 u2))) A) := by
  unfold f0_53
  refine i_land (pc' := 54) K X at_53 rfl ?_
  refine i_lor (pc' := 55) K X at_54 rfl ?_
  refine i_lstore (pc' := 57) (Ls' := #[.val (.long j0), .second, .val (.int i2), .val (.int i3), .val (.int i4), .val (.int i5), .val (.int i6), .val (.long j7), .second, .val (.long (u2 ||| (u1 &&& u0))), .second, .unset]) K X at_55 rfl rfl ?_
  refine i_lload (pc' := 59) K X at_57 rfl rfl ?_
  refine i_iconst (pc' := 60) (v := (0 : Int32)) K X at_59 rfl rfl ?_
  refine calls (pc' := 63) (kc := cells) (ks := slots) (S' := [(.int (f2_0 (u2 ||| (u1 &&& u0)) (0 : Int32)))]) (st := []) K X (i1 := 8) rfl (i2 := 9) rfl (i3 := 3) rfl (i4 := 10) rfl (by decide) (rm2 (l := l) (n0 := n0) (K.2.2.2.2.2.2.2.2) A (u2 ||| (u1 &&& u0)) (0 : Int32)) pd_2 rfl at_60 rfl rfl (by decide) (w := 0) (Nat.le_of_eq rfl) (by decide) (show cells + 0 ≤ 0 by omega) (show slots + 0 ≤ 0 by omega) rfl rfl rfl rfl (fun T1 X1 => ?_)
  by_cases hc63 : (f2_0 (u2 ||| (u1 &&& u0)) (0 : Int32)) = (0 : Int32)
  · rw [if_pos hc63]
    refine i_ifNo (pc' := 66) K X1 at_63 rfl (teq hc63).2 ?_
    refine i_lload (pc' := 68) K X1 at_66 rfl rfl ?_
    refine i_bipush (pc' := 70) (v := (8 : Int32)) K X1 at_68 rfl rfl ?_
    refine calls (pc' := 73) (kc := cells) (ks := slots) (S' := [(.int (f2_0 (u2 ||| (u1 &&& u0)) (8 : Int32)))]) (st := []) K X1 (i1 := 8) rfl (i2 := 9) rfl (i3 := 3) rfl (i4 := 10) rfl (by decide) (rm2 (l := l) (n0 := n0) (K.2.2.2.2.2.2.2.2) A (u2 ||| (u1 &&& u0)) (8 : Int32)) pd_2 rfl at_70 rfl rfl (by decide) (w := 0) (Nat.le_of_eq rfl) (by decide) (show cells + 0 ≤ 0 by omega) (show slots + 0 ≤ 0 by omega) rfl rfl rfl rfl (fun T2 X2 => ?_)
    by_cases hc73 : (f2_0 (u2 ||| (u1 &&& u0)) (8 : Int32)) = (0 : Int32)
    · rw [if_pos hc73]
      refine i_ifNo (pc' := 76) K X2 at_73 rfl (teq hc73).2 ?_
      refine i_lload (pc' := 78) K X2 at_76 rfl rfl ?_
      refine i_bipush (pc' := 80) (v := (16 : Int32)) K X2 at_78 rfl rfl ?_
      refine calls (pc' := 83) (kc := cells) (ks := slots) (S' := [(.int (f2_0 (u2 ||| (u1 &&& u0)) (16 : Int32)))]) (st := []) K X2 (i1 := 8) rfl (i2 := 9) rfl (i3 := 3) rfl (i4 := 10) rfl (by decide) (rm2 (l := l) (n0 := n0) (K.2.2.2.2.2.2.2.2) A (u2 ||| (u1 &&& u0)) (16 : Int32)) pd_2 rfl at_80 rfl rfl (by decide) (w := 0) (Nat.le_of_eq rfl) (by decide) (show cells + 0 ≤ 0 by omega) (show slots + 0 ≤ 0 by omega) rfl rfl rfl rfl (fun T3 X3 => ?_)
      by_cases hc83 : (f2_0 (u2 ||| (u1 &&& u0)) (16 : Int32)) = (0 : Int32)
      · rw [if_pos hc83]
        refine i_ifNo (pc' := 86) K X3 at_83 rfl (teq hc83).2 ?_
        refine i_lload (pc' := 88) K X3 at_86 rfl rfl ?_
        exact w0_88 K X3 j0 i2 i3 i4 i5 i6 j7 (u2 ||| (u1 &&& u0)) (u2 ||| (u1 &&& u0)) (show cells + 0 ≤ 0 by omega) (show slots + 0 ≤ 0 by omega)
      · rw [if_neg hc83]
        refine i_ifYes (pc' := 136) K X3 at_83 (feq hc83).2 (by decide) (by decide) ?_
        exact w0_136 K X3 j0 i2 i3 i4 i5 i6 j7 (u2 ||| (u1 &&& u0)) (show cells + 0 ≤ 0 by omega) (show slots + 0 ≤ 0 by omega)
    · rw [if_neg hc73]
      refine i_ifYes (pc' := 136) K X2 at_73 (feq hc73).2 (by decide) (by decide) ?_
      exact w0_136 K X2 j0 i2 i3 i4 i5 i6 j7 (u2 ||| (u1 &&& u0)) (show cells + 0 ≤ 0 by omega) (show slots + 0 ≤ 0 by omega)
  · rw [if_neg hc63]
    refine i_ifYes (pc' := 136) K X1 at_63 (feq hc63).2 (by decide) (by decide) ?_
    exact w0_136 K X1 j0 i2 i3 i4 i5 i6 j7 (u2 ||| (u1 &&& u0)) (show cells + 0 ≤ 0 by omega) (show slots + 0 ≤ 0 by omega)
def f0_25 (j0 : Int64) (i5 : Int32) (i6 : Int32) (u0 : Int64) : Int32 :=
  f0_53 u0 (f1_0 (i6 &&& (i5 ^^^ (-1 : Int32)))) (j0 &&& ((f1_0 (i5 ||| i6)) ^^^ (-1 : Int64)))
set_option maxRecDepth 65536 in
set_option maxHeartbeats 4000000 in
theorem w0_25 (K : Cx p l e room_1 s m meth c Z a0 tables_1 "com/example/mopac/mopac/core/AlignmentFilterHoldsZeroMaskingLastPinLaw" "law" code maxLocals ret) (X : On p l e room_1 s m args below meth c own_D Z n0 T A cells slots) (j0 : Int64) (i2 : Int32) (i3 : Int32) (i4 : Int32) (i5 : Int32) (i6 : Int32) (u0 : Int64) (hc : cells + 0 ≤ 0) (hs : slots + 0 ≤ 0) :
    Go p e below (T.setTop (mkF m 25 #[.val (.long j0), .second, .val (.int i2), .val (.int i3), .val (.int i4), .val (.int i5), .val (.int i6), .unset, .unset, .unset, .unset, .unset] [(.long u0)])) (Fini own_D Z n0 s room_1 (some (.int (f0_25 j0 i5 i6 u0))) A) := by
  unfold f0_25
  refine i_lstore (pc' := 27) (Ls' := #[.val (.long j0), .second, .val (.int i2), .val (.int i3), .val (.int i4), .val (.int i5), .val (.int i6), .val (.long u0), .second, .unset, .unset, .unset]) K X at_25 rfl rfl ?_
  refine i_lloadN (pc' := 28) K X at_27 rfl rfl ?_
  refine i_iload (pc' := 30) K X at_28 rfl rfl ?_
  refine i_iload (pc' := 32) K X at_30 rfl rfl ?_
  refine i_ior (pc' := 33) K X at_32 rfl ?_
  refine calls (pc' := 36) (kc := cells) (ks := slots) (S' := [(.long (f1_0 (i5 ||| i6))), (.long j0)]) (st := [(.long j0)]) K X (i1 := 1) rfl (i2 := 2) rfl (i3 := 3) rfl (i4 := 4) rfl (by decide) (rm1 (l := l) (n0 := n0) (K.2.2.2.2.2.2.2.2) A (i5 ||| i6)) pd_1 rfl at_33 rfl rfl (by decide) (w := 2) (Nat.le_of_eq rfl) (by decide) (show cells + 0 ≤ 0 by omega) (show slots + 0 ≤ 0 by omega) rfl rfl rfl rfl (fun T1 X1 => ?_)
  refine ldcL (pc' := 39) (v := (-1 : Int64)) K X1 (i := 7) rfl at_36 rfl ?_
  refine i_lxor (pc' := 40) K X1 at_39 rfl ?_
  refine i_land (pc' := 41) K X1 at_40 rfl ?_
  refine i_iload (pc' := 43) K X1 at_41 rfl rfl ?_
  refine i_iload (pc' := 45) K X1 at_43 rfl rfl ?_
  refine i_iconst (pc' := 46) (v := (-1 : Int32)) K X1 at_45 rfl rfl ?_
  refine i_ixor (pc' := 47) K X1 at_46 rfl ?_
  refine i_iand (pc' := 48) K X1 at_47 rfl ?_
  refine calls (pc' := 51) (kc := cells) (ks := slots) (S' := [(.long (f1_0 (i6 &&& (i5 ^^^ (-1 : Int32))))), (.long (j0 &&& ((f1_0 (i5 ||| i6)) ^^^ (-1 : Int64))))]) (st := [(.long (j0 &&& ((f1_0 (i5 ||| i6)) ^^^ (-1 : Int64))))]) K X1 (i1 := 1) rfl (i2 := 2) rfl (i3 := 3) rfl (i4 := 4) rfl (by decide) (rm1 (l := l) (n0 := n0) (K.2.2.2.2.2.2.2.2) A (i6 &&& (i5 ^^^ (-1 : Int32)))) pd_1 rfl at_48 rfl rfl (by decide) (w := 2) (Nat.le_of_eq rfl) (by decide) (show cells + 0 ≤ 0 by omega) (show slots + 0 ≤ 0 by omega) rfl rfl rfl rfl (fun T2 X2 => ?_)
  refine i_lload (pc' := 53) K X2 at_51 rfl rfl ?_
  exact w0_53 K X2 j0 i2 i3 i4 i5 i6 u0 u0 (f1_0 (i6 &&& (i5 ^^^ (-1 : Int32)))) (j0 &&& ((f1_0 (i5 ||| i6)) ^^^ (-1 : Int64))) (show cells + 0 ≤ 0 by omega) (show slots + 0 ≤ 0 by omega)
def f0_0 (j0 : Int64) (i2 : Int32) (i3 : Int32) (i4 : Int32) : Int32 :=
  f0_25 j0 (i2 &&& (255 : Int32)) (i3 &&& (255 : Int32)) ((72340172838076673 : Int64) * (((i4 &&& (255 : Int32))).toInt64))
set_option maxRecDepth 65536 in
set_option maxHeartbeats 4000000 in
theorem w0_0 (K : Cx p l e room_1 s m meth c Z a0 tables_1 "com/example/mopac/mopac/core/AlignmentFilterHoldsZeroMaskingLastPinLaw" "law" code maxLocals ret) (X : On p l e room_1 s m args below meth c own_D Z n0 T A cells slots) (j0 : Int64) (i2 : Int32) (i3 : Int32) (i4 : Int32) (hc : cells + 0 ≤ 0) (hs : slots + 0 ≤ 0) :
    Go p e below (T.setTop (mkF m 0 #[.val (.long j0), .second, .val (.int i2), .val (.int i3), .val (.int i4), .unset, .unset, .unset, .unset, .unset, .unset, .unset] [])) (Fini own_D Z n0 s room_1 (some (.int (f0_0 j0 i2 i3 i4))) A) := by
  unfold f0_0
  refine i_iloadN (pc' := 1) K X at_0 rfl rfl ?_
  refine i_sipush (pc' := 4) (v := (255 : Int32)) K X at_1 rfl rfl ?_
  refine i_iand (pc' := 5) K X at_4 rfl ?_
  refine i_istore (pc' := 7) (Ls' := #[.val (.long j0), .second, .val (.int i2), .val (.int i3), .val (.int i4), .val (.int (i2 &&& (255 : Int32))), .unset, .unset, .unset, .unset, .unset, .unset]) K X at_5 rfl rfl ?_
  refine i_iloadN (pc' := 8) K X at_7 rfl rfl ?_
  refine i_sipush (pc' := 11) (v := (255 : Int32)) K X at_8 rfl rfl ?_
  refine i_iand (pc' := 12) K X at_11 rfl ?_
  refine i_istore (pc' := 14) (Ls' := #[.val (.long j0), .second, .val (.int i2), .val (.int i3), .val (.int i4), .val (.int (i2 &&& (255 : Int32))), .val (.int (i3 &&& (255 : Int32))), .unset, .unset, .unset, .unset, .unset]) K X at_12 rfl rfl ?_
  refine ldcL (pc' := 17) (v := (72340172838076673 : Int64)) K X (i := 0) rfl at_14 rfl ?_
  refine i_iload (pc' := 19) K X at_17 rfl rfl ?_
  refine i_sipush (pc' := 22) (v := (255 : Int32)) K X at_19 rfl rfl ?_
  refine i_iand (pc' := 23) K X at_22 rfl ?_
  refine i_i2l (pc' := 24) K X at_23 rfl ?_
  refine i_lmul (pc' := 25) K X at_24 rfl ?_
  exact w0_25 K X j0 i2 i3 i4 (i2 &&& (255 : Int32)) (i3 &&& (255 : Int32)) ((72340172838076673 : Int64) * (((i4 &&& (255 : Int32))).toInt64)) (show cells + 0 ≤ 0 by omega) (show slots + 0 ≤ 0 by omega)
theorem pn_0 : plainName "com/example/mopac/mopac/core/AlignmentFilterHoldsZeroMaskingLastPinLaw" = true := by first | (simp [plainName, overriddenIn]; done) | decide +kernel
theorem rm0 {l : Launch} {Z : State} {a0 : Array Value} {n0 : Nat} (hw : ∀ d ∈ tables_1, d.before a0 Z = true) (A : AH) (j0 : Int64) (i2 : Int32) (i3 : Int32) (i4 : Int32) :
    Met l own_D Z n0 x code maxLocals ret room_1 [(.long j0), (.int i2), (.int i3), (.int i4)] A (some (.int (f0_0 j0 i2 i3 i4))) A :=
  met (W := tables_1) (a0 := a0) (own := "com/example/mopac/mopac/core/AlignmentFilterHoldsZeroMaskingLastPinLaw") (nm := "law") (L0 := #[.val (.long j0), .second, .val (.int i2), .val (.int i3), .val (.int i4), .unset, .unset, .unset, .unset, .unset, .unset, .unset]) (plainFor_of_name pn_0) hw rfl rfl (fun m => by first | (simp [entryFrame, mkF, argsToLocals, Value.category, maxLocals]; done) | rfl) (fun p e s m below meth c T K X => w0_0 K X j0 i2 i3 i4 (show 0 + 0 ≤ 0 by decide) (show 0 + 0 ≤ 0 by decide))
end OwnWalk
/-! the plain law -/
/-! a word's zero bytes -/
def own_ones : Nat → Nat
  | 0 => 0
  | k + 1 => 1 + 256 * own_ones k
def own_highs : Nat → Nat
  | 0 => 0
  | k + 1 => 128 + 256 * own_highs k
def own_nz : Nat → Nat → Prop
  | 0, _ => True
  | k + 1, n => n % 256 ≠ 0 ∧ own_nz k (n / 256)
set_option maxRecDepth 65536 in
theorem own_byte : ∀ b : Fin 256, b.val ≠ 0 → ((b.val + 255) % 256) &&& ((255 - b.val) &&& 128) = 0 := by decide +kernel
theorem own_and0 (x y : Nat) : x &&& y = 0 ↔ (x % 256 &&& y % 256) = 0 ∧ (x / 256 &&& y / 256) = 0 := by
  have h1 : (x &&& y) % 2 ^ 8 = x % 2 ^ 8 &&& y % 2 ^ 8 := Nat.and_mod_two_pow
  have h2 : (x &&& y) / 2 ^ 8 = x / 2 ^ 8 &&& y / 2 ^ 8 := Nat.and_div_two_pow
  simp only [show (2 : Nat) ^ 8 = 256 from rfl] at h1 h2
  rw [← h1, ← h2]; omega
theorem own_ones_le : ∀ k, own_ones k < 256 ^ k
  | 0 => by simp [own_ones]
  | k + 1 => by
    have := own_ones_le k
    have : 0 < 256 ^ k := Nat.pow_pos (by decide)
    simp only [own_ones, Nat.pow_succ]; omega
theorem own_Z : ∀ (k n : Nat), n < 256 ^ k → ((((n + 256 ^ k - own_ones k) % 256 ^ k) &&& ((256 ^ k - 1 - n) &&& own_highs k)) = 0 ↔ own_nz k n)
  | 0, n, hn => by simp [own_nz, own_highs]
  | k + 1, n, hn => by
    have ih := own_Z k (n / 256) (by rw [Nat.pow_succ] at hn; omega)
    have ho := own_ones_le k
    have hP : 0 < 256 ^ k := Nat.pow_pos (by decide)
    rw [Nat.pow_succ] at hn ⊢
    simp only [own_ones, own_highs, own_nz]
    rw [← ih, own_and0]
    generalize 256 ^ k = P at *
    generalize own_ones k = o at *
    generalize own_highs k = g at *
    have m1 : (n + P * 256 - (1 + 256 * o)) % (P * 256) = (n + P * 256 - (1 + 256 * o)) % 256 + 256 * ((n + P * 256 - (1 + 256 * o)) / 256 % P) := by rw [Nat.mul_comm P 256]; exact Nat.mod_mul
    have a1 : ((P * 256 - 1 - n) &&& (128 + 256 * g)) % 256 = (255 - n % 256) &&& 128 := by
      have h := @Nat.and_mod_two_pow (P * 256 - 1 - n) (128 + 256 * g) 8
      simp only [show (2 : Nat) ^ 8 = 256 from rfl] at h
      rw [h, show (P * 256 - 1 - n) % 256 = 255 - n % 256 by omega, show (128 + 256 * g) % 256 = 128 by omega]
    have a2 : ((P * 256 - 1 - n) &&& (128 + 256 * g)) / 256 = (P - 1 - n / 256) &&& g := by
      have h := @Nat.and_div_two_pow (P * 256 - 1 - n) (128 + 256 * g) 8
      simp only [show (2 : Nat) ^ 8 = 256 from rfl] at h
      rw [h, show (P * 256 - 1 - n) / 256 = P - 1 - n / 256 by omega, show (128 + 256 * g) / 256 = g by omega]
    rw [a1, a2, m1]
    by_cases hb : n % 256 = 0
    · have q : (n + P * 256 - (1 + 256 * o)) % 256 = 255 ∨ n + P * 256 < 1 + 256 * o := by omega
      rcases q with q | q
      · have e : ((n + P * 256 - (1 + 256 * o)) % 256 + 256 * ((n + P * 256 - (1 + 256 * o)) / 256 % P)) % 256 = 255 := by omega
        rw [e, hb]
        simp
      · exfalso
        omega
    · have e1 : ((n + P * 256 - (1 + 256 * o)) % 256 + 256 * ((n + P * 256 - (1 + 256 * o)) / 256 % P)) % 256 = (n % 256 + 255) % 256 := by omega
      have e2 : ((n + P * 256 - (1 + 256 * o)) % 256 + 256 * ((n + P * 256 - (1 + 256 * o)) / 256 % P)) / 256 = (n / 256 + P - o) % P := by
        rw [show (n + P * 256 - (1 + 256 * o)) / 256 = n / 256 + P - o by omega]
        omega
      rw [e1, e2]
      have := own_byte ⟨n % 256, Nat.mod_lt _ (by decide)⟩ hb
      simp only at this
      rw [this]
      exact ⟨fun z => ⟨hb, z.2⟩, fun z => ⟨rfl, z.2⟩⟩
theorem own_word (j : Int64) : (j - (72340172838076673 : Int64)) &&& ((j ^^^ (-1 : Int64)) &&& (-9187201950435737472 : Int64)) = 0 ↔ own_nz 8 j.toBitVec.toNat := by
  have hz := own_Z 8 j.toBitVec.toNat j.toBitVec.isLt
  rw [← hz]
  rw [← Int64.toBitVec_inj, ← BitVec.toNat_inj]
  have e1 : (j - (72340172838076673 : Int64)).toBitVec.toNat = (j.toBitVec.toNat + 256 ^ 8 - own_ones 8) % 256 ^ 8 := by
    rw [Int64.toBitVec_sub, BitVec.toNat_sub]
    have : (72340172838076673 : Int64).toBitVec.toNat = 72340172838076673 := by decide
    have : own_ones 8 = 72340172838076673 := by decide
    omega
  have e2 : ((j ^^^ (-1 : Int64)) &&& (-9187201950435737472 : Int64)).toBitVec.toNat = (256 ^ 8 - 1 - j.toBitVec.toNat) &&& own_highs 8 := by
    rw [Int64.toBitVec_and, Int64.toBitVec_xor, BitVec.toNat_and]
    have : (-1 : Int64).toBitVec = BitVec.allOnes 64 := by decide
    rw [this, BitVec.xor_allOnes, BitVec.toNat_not]
    rfl
  rw [Int64.toBitVec_and, BitVec.toNat_and, e1, e2]
  rfl
theorem own_nat (j : Int64) : j.toInt % 18446744073709551616 = (j.toBitVec.toNat : Int) := by
  have h := j.toBitVec.isLt
  show j.toBitVec.toInt % _ = _
  rw [BitVec.toInt_eq_toNat_cond]; split <;> omega
theorem own_bz (j : Int64) (q : Int32) (k : Nat) (h : q.toBitVec.toNat % 64 = k) (h0 : 0 < k) : f2_0 j q = if j.toBitVec.toNat / 2 ^ k % 256 = 0 then 1 else 0 := by
  unfold f2_0 f2_3 f2_17
  have e1 := c_lushr j q k h h0
  have e2 := c_maskL (((j.toUInt64 >>> (q &&& 0x3f).toInt64.toUInt64).toInt64)) 255 8 (by decide) (by decide)
  rw [own_nat] at e1
  rw [e1] at e2
  have e3 : ((((j.toUInt64 >>> (q &&& 0x3f).toInt64.toUInt64).toInt64) &&& (255 : Int64)) = 0) ↔ j.toBitVec.toNat / 2 ^ k % 256 = 0 := by
    rw [← Int64.toInt_inj, e2]
    show _ = (0 : Int) ↔ _
    norm_cast
  by_cases c : j.toBitVec.toNat / 2 ^ k % 256 = 0
  · rw [if_pos c, if_pos (e3.mpr c)]; decide
  · rw [if_neg c, if_neg (fun z => c (e3.mp z))]; decide
theorem own_bz0 (j : Int64) : f2_0 j 0 = if j.toBitVec.toNat % 256 = 0 then 1 else 0 := by
  unfold f2_0 f2_3 f2_17
  have e0 : ((j.toUInt64 >>> ((0 : Int32) &&& 0x3f).toInt64.toUInt64).toInt64) = j := by
    have : ((0 : Int32) &&& 0x3f).toInt64.toUInt64 = 0 := by decide
    rw [this]; simp
  rw [e0]
  have e2 := c_maskL j 255 8 (by decide) (by decide)
  have e3 : ((j &&& (255 : Int64)) = 0) ↔ j.toBitVec.toNat % 256 = 0 := by
    rw [← Int64.toInt_inj, e2]
    have := own_nat j
    show _ = (0 : Int) ↔ _
    simp only [show ((2 ^ 8 : Nat) : Int) = 256 from rfl]
    omega
  by_cases c : j.toBitVec.toNat % 256 = 0
  · rw [if_pos c, if_pos (e3.mpr c)]; decide
  · rw [if_neg c, if_neg (fun z => c (e3.mp z))]; decide
theorem own_f (j : Int64) : f3_0 j = if (j - (72340172838076673 : Int64)) &&& ((j ^^^ (-1 : Int64)) &&& (-9187201950435737472 : Int64)) = 0 then 0 else 1 := by
  unfold f3_0 f3_11 f3_25
  rw [Int64.and_assoc, nar0, nar1]
theorem own_53 (j : Int64) : (if (f2_0 j (0 : Int32)) = (0 : Int32) then (if (f2_0 j (8 : Int32)) = (0 : Int32) then (if (f2_0 j (16 : Int32)) = (0 : Int32) then (f0_88 j j)
  else (f0_136 j))
  else (f0_136 j))
  else (f0_136 j)) = 1 := by
  have w := own_word j
  unfold f0_88 f0_128 f0_136 f0_141 f0_158
  rw [own_f, own_bz0, own_bz j 8 8 (by decide) (by decide), own_bz j 16 16 (by decide) (by decide), own_bz j 24 24 (by decide) (by decide), own_bz j 32 32 (by decide) (by decide), own_bz j 40 40 (by decide) (by decide), own_bz j 48 48 (by decide) (by decide), own_bz j 56 56 (by decide) (by decide)]
  simp only [own_nz, Nat.div_div_eq_div_mul, and_true] at w
  generalize j.toBitVec.toNat = n at *
  generalize (j - (72340172838076673 : Int64)) &&& ((j ^^^ (-1 : Int64)) &&& (-9187201950435737472 : Int64)) = W at *
  by_cases c : W = 0
  · obtain ⟨c0, c1, c2, c3, c4, c5, c6, c7⟩ := w.mp c
    simp only [Nat.reduceMul] at c1 c2 c3 c4 c5 c6 c7
    simp [c, c0, c1, c2, c3, c4, c5, c6, c7, nar]
  · by_cases c0 : n % 256 = 0
    · simp [c, c0, nar]
    by_cases c1 : n / 256 % 256 = 0
    · simp [c, c0, c1, nar]
    by_cases c2 : n / 65536 % 256 = 0
    · simp [c, c0, c1, c2, nar]
    by_cases c3 : n / 16777216 % 256 = 0
    · simp [c, c0, c1, c2, c3, nar]
    by_cases c4 : n / 4294967296 % 256 = 0
    · simp [c, c0, c1, c2, c3, c4, nar]
    by_cases c5 : n / 1099511627776 % 256 = 0
    · simp [c, c0, c1, c2, c3, c4, c5, nar]
    by_cases c6 : n / 281474976710656 % 256 = 0
    · simp [c, c0, c1, c2, c3, c4, c5, c6, nar]
    by_cases c7 : n / 72057594037927936 % 256 = 0
    · simp [c, c0, c1, c2, c3, c4, c5, c6, c7, nar]
    · exact absurd (w.mpr ⟨c0, c1, c2, c3, c4, c5, c6, c7⟩) c
theorem own_plain (j0 : Int64) (i1 i2 i3 : Int32) : f0_0 j0 i1 i2 i3 = 1 := by
  unfold f0_0 f0_25 f0_53
  exact own_53 _
set_option maxRecDepth 65536 in
set_option maxHeartbeats 4000000 in
theorem comes_1 {Post : Tables → Env → Array Value → State → Outcome → State → Prop} (hpost : ∀ tb e args s v u, (limb_1_1.after args s (.returned v) u = true ∧ limb_1_2.after args s (.returned v) u = true) → FrameEnd s (.returned v) u (Jvm.fieldLocs frame_1_writes args s ++ Jvm.arrayLocs frame_1_arrays args s ++ Jvm.staticLocs frame_1_statics s) 0 0 → Post tb e args s (.returned v) u) :
    ArmFor flags0 classFile x code maxLocals ret World_1 tables_1 room_1 Calls_1 rest_1 Pre_1 Post := by
  intro l hfl _ _ p e ha hc hk s m args below hf hA hF happ hP
  obtain ⟨hcalls, hrest, hpre⟩ := hP
  obtain ⟨-, -, -, hnamed, -, -, -, hat⟩ := (Spec.applies_iff hf).mp happ
  obtain ⟨hg, hn⟩ := and_e (Cond.before_iff.mp (show (Jvm.Cond.and given_1 narrow_1).before args s = true from hpre))
  obtain ⟨b0, hg⟩ := and_e hg
  obtain ⟨b1, hg⟩ := and_e hg
  obtain ⟨b2, hg⟩ := and_e hg
  obtain ⟨b3, hg⟩ := and_e hg
  have b4 := hg
  obtain ⟨w0, w1, w2, w3, rfl⟩ : ∃ w0 w1 w2 w3 : Value, args = #[w0, w1, w2, w3] := by
    have hs : args.size = 4 := by simpa [Cond.value, given_1] using b0
    obtain ⟨L⟩ := args
    match L, hs with
    | [w0, w1, w2, w3], _ => exact ⟨w0, w1, w2, w3, rfl⟩
  have hw := fun d (hd : d ∈ tables_1) => atoms_spec (ws := Jvm.Cond.code x code maxLocals ret :: tables_1) hat d (List.mem_cons_of_mem _ hd)
  obtain ⟨i0, ei0⟩ := isL_v b1
  obtain rfl : w0 = (.long i0) := Option.some.inj ei0
  obtain ⟨i1, ei1⟩ := is_v b2
  obtain rfl : w1 = (.int i1) := Option.some.inj ei1
  obtain ⟨i2, ei2⟩ := is_v b3
  obtain rfl : w2 = (.int i2) := Option.some.inj ei2
  obtain ⟨i3, ei3⟩ := is_v b4
  obtain rfl : w3 = (.int i3) := Option.some.inj ei3
  have RA : Rep own_D s s.heap.size s.heap [] := ⟨rfl, fun i t vs e => by simp at e⟩
  have hv := own_plain i0 i1 i2 i3
  obtain ⟨n, o, h1, h2, h3, v, L, rfl, ⟨rfl, N, -⟩, hq⟩ := rm0 (l := l) (n0 := s.heap.size) hw [] i0 i1 i2 i3 tables_1 s.heap RA p e ha hc hk s m _ below hf ((Spec.applies_iff_loose hf).mp happ).1 ⟨rfl, State.Warmed39.refl s, rfl⟩ trivial
  rw [hv] at hq h3
  refine ⟨n, _, h1, h2, h3, hpost _ _ _ _ _ _ ⟨Cond.after_iff.mpr rfl, Cond.after_iff.mpr (eq_i res_at (Term.int_eval (1)) rfl)⟩ ⟨hq.1, hq.2.1, (hq.2.2.sift fun y hy => Or.inr (N y hy)).mono (by decide) (by decide)⟩⟩
theorem main_1_1 : Claimed_1_1 := comes_1 fun _ _ _ _ _ _ h hF => ⟨h.1, hF⟩
theorem main_1_2 : Claimed_1_2 := comes_1 fun _ _ _ _ _ _ h hF => ⟨h.2, hF⟩
end Jvm.Pilot.@@N@@
namespace Jvm.Pilot.@@N@@
open Jvm Jvm.ClassFile Sem Op Lib Jvm.Free Jvm.Stand Jvm.Pilot.@@N@@.Jvm.D
/-! MADE BY PROGRAM (witnessworld.py) out of the Statement's table words and the real class files: 9 classes; the members and pool entries that the words name. The judged class is class 1, her method 1. -/
namespace start1
open Jvm.ClassFile
def u (s : String) : CpInfo := .utf8 (stringToUtf16 s)
/-- a pool by its gaps: so many unusable entries, then the entry; so many at the end -/
def gap : Nat → List CpInfo → List CpInfo
  | 0, r => r
  | n + 1, r => .unusable :: gap n r
def poolList (es : List (Nat × CpInfo)) (last : Nat) : List CpInfo := es.foldr (fun e r => gap e.1 (e.2 :: r)) (gap last [])
def pool (es : List (Nat × CpInfo)) (last : Nat) : Array CpInfo := ⟨poolList es last⟩
def fileOf (pool : Array CpInfo) (this : Nat) (attrs : Array Attribute := #[]) (ms : Array MethodInfo := #[]) (fl : Nat := 33) (sup : Nat := 0) (ifs : Array Nat := #[]) (fds : Array FieldInfo := #[]) : ClassFile where
  minorVersion := 0
  majorVersion := 65
  constantPool := pool
  accessFlags := fl
  thisClass := this
  superClass := sup
  interfaces := ifs
  fields := fds
  methods := ms
  attributes := attrs
def plain (name : String) (sup : Option ClassId) : Class where
  name := name
  kind := .ordinary
  loader := none
  accessFlags := 33
  super := sup
  interfaces := #[]
  cf := none
  fields := #[]
  methods := #[]
  instanceTypes := #[]
  staticTypes := #[]
  resolved := #[]
  callSites := []
  init := .initialized
  statics := none
  mirror := none

def pool0 : Array CpInfo := pool [(5, u "<init>"), (0, u "()V"), (1, .class_ 10), (1, u "java/lang/Object")] 113

def k0m0 : Method := { name := "<init>", desc := "()V", sig := { parameters := [], returnType := none }, accessFlags := 1, code := none }
/-- java/lang/Object -/
def k0 : Class := { plain "java/lang/Object" none with
  accessFlags := 33
  interfaces := #[]
  cf := some (fileOf pool0 8 #[] #[{ accessFlags := 1, nameIndex := 5, descriptorIndex := 6, attributes := #[] }] 33 0 #[] #[])
  fields := #[]
  methods := #[k0m0]
  instanceTypes := #[]
  staticTypes := #[]
  resolved := Array.replicate 124 none
  statics := none }

def pool1 : Array CpInfo := pool [(2, .class_ 4), (1, u "java/lang/Object"), (0, u "<init>"), (0, u "()V"), (0, .long 72340172838076673), (1, .methodref 10 11), (0, .class_ 12), (0, .nameAndType 13 14), (0, u "com/example/mopac/mopac/core/AlignmentFilterHoldsZeroMaskingLastPinLaw"), (0, u "spread"), (0, u "(I)J"), (0, .long 18446744073709551615), (1, .methodref 10 18), (0, .nameAndType 19 20), (0, u "byteZero"), (0, u "(JI)Z"), (0, .methodref 22 23), (0, .class_ 24), (0, .nameAndType 25 26), (0, u "com/example/mopac/mopac/core/AlignmentFilter"), (0, u "holdsZeroMaskingLast"), (0, u "(J)Z"), (0, .long 255), (1, .long 65280), (1, .long 16711680), (1, .long 4278190080), (1, .long 1095216660480), (1, .long 280375465082880), (1, .long 71776119061217280), (1, .long 18374686479671623680), (3, u "law"), (0, u "(JIII)Z")] 3

def k1m0 : Method := { name := "<init>", desc := "()V", sig := { parameters := [], returnType := none }, accessFlags := 2, code := none }
def k1c1 : Code := { maxStack := 6, maxLocals := 12, code := code, exceptionTable := #[], attributes := #[] }
def k1m1 : Method := { name := "law", desc := "(JIII)Z", sig := { parameters := [.long, .int, .int, .int], returnType := some .boolean }, accessFlags := 9, code := some k1c1 }
def k1c2 : Code := { maxStack := 4, maxLocals := 3, code := method_3_code, exceptionTable := #[], attributes := #[] }
def k1m2 : Method := { name := "byteZero", desc := "(JI)Z", sig := { parameters := [.long, .int], returnType := some .boolean }, accessFlags := 10, code := some k1c2 }
def k1c3 : Code := { maxStack := 4, maxLocals := 3, code := method_4_code, exceptionTable := #[], attributes := #[] }
def k1m3 : Method := { name := "spread", desc := "(I)J", sig := { parameters := [.int], returnType := some .long }, accessFlags := 10, code := some k1c3 }
/-- com/example/mopac/mopac/core/AlignmentFilterHoldsZeroMaskingLastPinLaw -/
def k1 : Class := { plain "com/example/mopac/mopac/core/AlignmentFilterHoldsZeroMaskingLastPinLaw" (some 0) with
  accessFlags := 49
  interfaces := #[]
  cf := some (fileOf pool1 10 #[] #[{ accessFlags := 2, nameIndex := 5, descriptorIndex := 6, attributes := #[] }, { accessFlags := 9, nameIndex := 45, descriptorIndex := 46, attributes := #[] }, { accessFlags := 10, nameIndex := 19, descriptorIndex := 20, attributes := #[] }, { accessFlags := 10, nameIndex := 13, descriptorIndex := 14, attributes := #[] }] 49 2 #[] #[])
  fields := #[]
  methods := #[k1m0, k1m1, k1m2, k1m3]
  instanceTypes := #[]
  staticTypes := #[]
  resolved := Array.replicate 50 none
  statics := none }

def pool2 : Array CpInfo := pool [(2, .class_ 4), (1, u "java/lang/Object"), (0, u "<init>"), (0, u "()V"), (19, .class_ 28), (1, u "com/example/mopac/mopac/core/AlignmentFilter"), (0, u "UNMARKED"), (0, u "[B"), (9, u "(J)Z"), (31, .long 72340172838076673), (3, u "COMPLEMENT_MASKED_FIRST"), (0, u "Z"), (5, u "holdsZeroMaskingLast"), (0, .long 18446744073709551615), (1, .long 9259542123273814144), (9, u "ONES"), (0, u "J"), (1, u "HIGHS"), (0, u "LOWS"), (0, u "GATHER"), (0, u "SAMPLED"), (0, u "I"), (1, u "MOST_SAMPLED"), (1, u "RUN"), (1, u "PAIR_MOST"), (1, u "CHOSEN_FROM"), (1, u "STOPS_APART"), (1, u "CHAR_STOPS_APART"), (1, u "CANDIDATES"), (1, u "STOP_COST"), (0, u "D"), (2, u "SHIFTED_FROM"), (1, u "LATIN1_STOP_COST"), (2, u "LATIN1_READ_COST"), (2, u "SHIFTED_COST"), (2, u "SHIFTED_CANDIDATE_COST"), (2, u "FOURTH_COPY_COST"), (2, u "MOST_COPIED"), (1, u "LATIN1_OTHERS_FACTOR"), (2, u "SHIFTED_PIECE"), (23, .class_ 170), (0, u "com/example/mopac/mopac/core/AlignmentFilter$Scan"), (0, .class_ 172), (0, u "com/example/mopac/mopac/core/AlignmentFilter$Chars"), (0, .class_ 174), (0, u "com/example/mopac/mopac/core/AlignmentFilter$Chars$Tally"), (0, .class_ 176), (0, u "com/example/mopac/mopac/core/AlignmentFilter$Chars$StringScan"), (0, .class_ 178), (0, u "com/example/mopac/mopac/core/AlignmentFilter$Bytes")] 6

def k2m0 : Method := { name := "<init>", desc := "()V", sig := { parameters := [], returnType := none }, accessFlags := 2, code := none }
def k2c1 : Code := { maxStack := 6, maxLocals := 2, code := prog_12_method_13_code, exceptionTable := #[], attributes := #[] }
def k2m1 : Method := { name := "holdsZeroMaskingLast", desc := "(J)Z", sig := { parameters := [.long], returnType := some .boolean }, accessFlags := 8, code := some k2c1 }
/-- com/example/mopac/mopac/core/AlignmentFilter -/
def k2 : Class := { plain "com/example/mopac/mopac/core/AlignmentFilter" (some 0) with
  accessFlags := 48
  interfaces := #[]
  cf := some (fileOf pool2 26 #[.nestMembers #[169, 171, 173, 175, 177]] #[{ accessFlags := 2, nameIndex := 5, descriptorIndex := 6, attributes := #[] }, { accessFlags := 8, nameIndex := 83, descriptorIndex := 40, attributes := #[] }] 48 2 #[] #[{ accessFlags := 26, nameIndex := 96, descriptorIndex := 97, attributes := #[] }, { accessFlags := 26, nameIndex := 99, descriptorIndex := 97, attributes := #[] }, { accessFlags := 26, nameIndex := 100, descriptorIndex := 97, attributes := #[] }, { accessFlags := 26, nameIndex := 101, descriptorIndex := 97, attributes := #[] }, { accessFlags := 26, nameIndex := 76, descriptorIndex := 77, attributes := #[] }, { accessFlags := 26, nameIndex := 102, descriptorIndex := 103, attributes := #[] }, { accessFlags := 26, nameIndex := 105, descriptorIndex := 103, attributes := #[] }, { accessFlags := 26, nameIndex := 107, descriptorIndex := 103, attributes := #[] }, { accessFlags := 26, nameIndex := 109, descriptorIndex := 103, attributes := #[] }, { accessFlags := 26, nameIndex := 111, descriptorIndex := 103, attributes := #[] }, { accessFlags := 26, nameIndex := 113, descriptorIndex := 103, attributes := #[] }, { accessFlags := 26, nameIndex := 115, descriptorIndex := 103, attributes := #[] }, { accessFlags := 26, nameIndex := 117, descriptorIndex := 103, attributes := #[] }, { accessFlags := 26, nameIndex := 119, descriptorIndex := 120, attributes := #[] }, { accessFlags := 26, nameIndex := 123, descriptorIndex := 103, attributes := #[] }, { accessFlags := 26, nameIndex := 125, descriptorIndex := 120, attributes := #[] }, { accessFlags := 26, nameIndex := 128, descriptorIndex := 120, attributes := #[] }, { accessFlags := 26, nameIndex := 131, descriptorIndex := 120, attributes := #[] }, { accessFlags := 26, nameIndex := 134, descriptorIndex := 120, attributes := #[] }, { accessFlags := 26, nameIndex := 137, descriptorIndex := 120, attributes := #[] }, { accessFlags := 26, nameIndex := 140, descriptorIndex := 103, attributes := #[] }, { accessFlags := 26, nameIndex := 142, descriptorIndex := 120, attributes := #[] }, { accessFlags := 26, nameIndex := 145, descriptorIndex := 103, attributes := #[] }, { accessFlags := 26, nameIndex := 29, descriptorIndex := 30, attributes := #[] }])
  fields := #[{ name := "ONES", type := .long, accessFlags := 26, slot := 0, constantValue := 0 }, { name := "HIGHS", type := .long, accessFlags := 26, slot := 1, constantValue := 0 }, { name := "LOWS", type := .long, accessFlags := 26, slot := 2, constantValue := 0 }, { name := "GATHER", type := .long, accessFlags := 26, slot := 3, constantValue := 0 }, { name := "COMPLEMENT_MASKED_FIRST", type := .boolean, accessFlags := 26, slot := 4, constantValue := 0 }, { name := "SAMPLED", type := .int, accessFlags := 26, slot := 5, constantValue := 0 }, { name := "MOST_SAMPLED", type := .int, accessFlags := 26, slot := 6, constantValue := 0 }, { name := "RUN", type := .int, accessFlags := 26, slot := 7, constantValue := 0 }, { name := "PAIR_MOST", type := .int, accessFlags := 26, slot := 8, constantValue := 0 }, { name := "CHOSEN_FROM", type := .int, accessFlags := 26, slot := 9, constantValue := 0 }, { name := "STOPS_APART", type := .int, accessFlags := 26, slot := 10, constantValue := 0 }, { name := "CHAR_STOPS_APART", type := .int, accessFlags := 26, slot := 11, constantValue := 0 }, { name := "CANDIDATES", type := .int, accessFlags := 26, slot := 12, constantValue := 0 }, { name := "STOP_COST", type := .double, accessFlags := 26, slot := 13, constantValue := 0 }, { name := "SHIFTED_FROM", type := .int, accessFlags := 26, slot := 14, constantValue := 0 }, { name := "LATIN1_STOP_COST", type := .double, accessFlags := 26, slot := 15, constantValue := 0 }, { name := "LATIN1_READ_COST", type := .double, accessFlags := 26, slot := 16, constantValue := 0 }, { name := "SHIFTED_COST", type := .double, accessFlags := 26, slot := 17, constantValue := 0 }, { name := "SHIFTED_CANDIDATE_COST", type := .double, accessFlags := 26, slot := 18, constantValue := 0 }, { name := "FOURTH_COPY_COST", type := .double, accessFlags := 26, slot := 19, constantValue := 0 }, { name := "MOST_COPIED", type := .int, accessFlags := 26, slot := 20, constantValue := 0 }, { name := "LATIN1_OTHERS_FACTOR", type := .double, accessFlags := 26, slot := 21, constantValue := 0 }, { name := "SHIFTED_PIECE", type := .int, accessFlags := 26, slot := 22, constantValue := 0 }, { name := "UNMARKED", type := (.array .byte), accessFlags := 26, slot := 23, constantValue := 0 }]
  methods := #[k2m0, k2m1]
  instanceTypes := #[]
  staticTypes := #[.long, .long, .long, .long, .boolean, .int, .int, .int, .int, .int, .int, .int, .int, .double, .int, .double, .double, .double, .double, .double, .int, .double, .int, (.array .byte)]
  resolved := Array.replicate 185 none
  statics := none }

def pool3 : Array CpInfo := pool [(1, u "java/lang/Cloneable"), (0, .class_ 1), (0, u "java/lang/Object"), (0, .class_ 3)] 3

/-- java/lang/Cloneable -/
def k3 : Class := { plain "java/lang/Cloneable" (some 0) with
  accessFlags := 1537
  interfaces := #[]
  cf := some (fileOf pool3 2 #[] #[] 1537 4 #[] #[])
  fields := #[]
  methods := #[]
  instanceTypes := #[]
  staticTypes := #[]
  resolved := Array.replicate 8 none
  statics := none }

def pool4 : Array CpInfo := pool [(1, u "java/io/Serializable"), (0, .class_ 1), (0, u "java/lang/Object"), (0, .class_ 3)] 3

/-- java/io/Serializable -/
def k4 : Class := { plain "java/io/Serializable" (some 0) with
  accessFlags := 1537
  interfaces := #[]
  cf := some (fileOf pool4 2 #[] #[] 1537 4 #[] #[])
  fields := #[]
  methods := #[]
  instanceTypes := #[]
  staticTypes := #[]
  resolved := Array.replicate 8 none
  statics := none }

/-- the primitive byte -/
def k5 : Class := { plain "byte" none with kind := .primitive 'B', accessFlags := 0x411 }
/-- [B -/
def k6 : Class := { plain "[B" (some 0) with kind := .array 5 .byte, interfaces := #[3, 4], accessFlags := 1041 }

/-- the primitive int -/
def k7 : Class := { plain "int" none with kind := .primitive 'I', accessFlags := 0x411 }
/-- [I -/
def k8 : Class := { plain "[I" (some 0) with kind := .array 7 .int, interfaces := #[3, 4], accessFlags := 1041 }

def heap : Heap := #[]
def classes : Array Class := #[k0, k1, k2, k3, k4, k5, k6, k7, k8]
def interned : List (Array UInt16 × Addr) := []
def slotsUsed : Nat := 0
def theMethod : MethodId := ⟨1, 1⟩
def args0 : Array Value := #[.long 5, .int 5, .int 5, .int 5]
def aboutOver (below : List Frame) : State where
  vm := { classes := classes, interned := interned.toArray }
  heap := heap
  slotsUsed := slotsUsed
  threads := #[{ frames := .invoking theMethod args0 :: below }]
def below0 : List Frame := [.native { method := ⟨0, 0⟩, args := #[] }]
def about1 : State := aboutOver below0
def p0 : Program := .bare "" "" ""
def e0 : Env := launch0.env 0 0 0
theorem w_frames : about1.frames = Frame.invoking theMethod args0 :: below0 := rfl
set_option maxRecDepth 65536 in
theorem w_args : argsFit about1.vm theMethod args0 = true := by decide +kernel
set_option maxRecDepth 65536 in
theorem w_heap : heapFits about1 = true := by decide +kernel
set_option maxRecDepth 65536 in
theorem w_runnable : about1.curStatus? = some .runnable := by decide +kernel
set_option maxRecDepth 65536 in
theorem w_alone : about1.alone = true := by decide +kernel
set_option maxRecDepth 65536 in
theorem w_named : about1.methodNamed? x = some theMethod := by decide +kernel
set_option maxRecDepth 65536 in
theorem w_hears : about1.hears theMethod below0 = true := by decide +kernel
set_option maxRecDepth 65536 in
theorem w_ripe : about1.ripe theMethod args0 below0 = true := by decide +kernel
theorem w_running : about1.status = .running := rfl
set_option maxRecDepth 65536 in
theorem w_room : about1.hasRoom e0.platform room_1 = true :=
  launch0.hasRoom_least _ room_1 (by decide +kernel) (by decide +kernel) (by decide +kernel) (by decide +kernel) (by decide +kernel) (by decide +kernel)
theorem allAtoms_all (ts : List Jvm.Cond) (a : Array Jvm.Value) (st : Jvm.State) : (allAtoms ts).before a st = ts.all (fun c => c.before a st) := by
  induction ts with
  | nil => rfl
  | cons c t ih =>
    show (Jvm.Cond.and c (allAtoms t)).before a st = _
    rw [Jvm.Cond.before_and, ih, List.all_cons]
def words1 : List Jvm.Cond := Jvm.Cond.code x code maxLocals ret :: tables_1
/-- a 'code' word, met by the world's own term for the bytes: nothing is compared byte by byte -/
theorem code_word {y : MethodName} {bytes : ByteArray} {mx : Nat} {rt : Option FieldType} {a : Array Value} {s : State} {m : MethodId} {meth : Method} {c : Code} (h1 : s.methodNamed? y = some m) (h2 : s.vm.method? m = some meth) (h3 : meth.code = some c) (h4 : c.code = bytes)
    (h5 : (c.maxLocals == mx && c.exceptionTable.isEmpty && decide (c.maxStack ≤ mostOperands) && decide (meth.sig.returnType = rt) && !meth.locks && decide (parseMethodDescriptor y.desc = some meth.sig)) = true) : (Jvm.Cond.code y bytes mx rt).before a s = true := by
  simp only [Bool.and_eq_true, beq_iff_eq, Bool.not_eq_true', decide_eq_true_eq] at h5
  obtain ⟨⟨⟨⟨⟨g1, g2⟩, g3⟩, g4⟩, g5⟩, g6⟩ := h5
  simp [Cond.before, Cond.holds, Cond.value, h1, h2, h3, h4, g1, g2, g3, g4, g5, g6]
def isCode : Jvm.Cond → Bool
  | .code _ _ _ _ => true
  | _ => false
theorem all_split {L : List Jvm.Cond} {P : Jvm.Cond → Bool} (h1 : L.all (fun c => isCode c || P c) = true) (h2 : ∀ c ∈ L.filter isCode, P c = true) : L.all P = true := by
  refine List.all_eq_true.mpr fun c hc => ?_
  have h := List.all_eq_true.mp h1 c hc
  rcases Bool.eq_false_or_eq_true (isCode c) with hi | hi
  · exact h2 c (List.mem_filter.mpr ⟨hc, hi⟩)
  · simpa [hi] using h
set_option maxRecDepth 65536 in
theorem w_c0 : (Jvm.Cond.code x code maxLocals ret).before args0 about1 = true := code_word (m := ⟨1, 1⟩) (meth := k1m1) (c := k1c1) (by decide +kernel) rfl rfl rfl (by decide +kernel)
set_option maxRecDepth 65536 in
theorem w_c1 : (Jvm.Cond.code ({ cls := "com/example/mopac/mopac/core/AlignmentFilterHoldsZeroMaskingLastPinLaw", name := "spread", desc := "(I)J" } : Jvm.MethodName) method_4_code (3 : Nat) (Option.some Jvm.ClassFile.FieldType.long)).before args0 about1 = true := code_word (m := ⟨1, 3⟩) (meth := k1m3) (c := k1c3) (by decide +kernel) rfl rfl rfl (by decide +kernel)
set_option maxRecDepth 65536 in
theorem w_c2 : (Jvm.Cond.code ({ cls := "com/example/mopac/mopac/core/AlignmentFilterHoldsZeroMaskingLastPinLaw", name := "byteZero", desc := "(JI)Z" } : Jvm.MethodName) method_3_code (3 : Nat) (Option.some Jvm.ClassFile.FieldType.boolean)).before args0 about1 = true := code_word (m := ⟨1, 2⟩) (meth := k1m2) (c := k1c2) (by decide +kernel) rfl rfl rfl (by decide +kernel)
set_option maxRecDepth 65536 in
theorem w_c3 : (Jvm.Cond.code ({ cls := "com/example/mopac/mopac/core/AlignmentFilter", name := "holdsZeroMaskingLast", desc := "(J)Z" } : Jvm.MethodName) prog_12_method_13_code (2 : Nat) (Option.some Jvm.ClassFile.FieldType.boolean)).before args0 about1 = true := code_word (m := ⟨2, 1⟩) (meth := k2m1) (c := k2c1) (by decide +kernel) rfl rfl rfl (by decide +kernel)
def codes1 : List Jvm.Cond := [Jvm.Cond.code x code maxLocals ret, Jvm.Cond.code ({ cls := "com/example/mopac/mopac/core/AlignmentFilterHoldsZeroMaskingLastPinLaw", name := "spread", desc := "(I)J" } : Jvm.MethodName) method_4_code (3 : Nat) (Option.some Jvm.ClassFile.FieldType.long), Jvm.Cond.code ({ cls := "com/example/mopac/mopac/core/AlignmentFilterHoldsZeroMaskingLastPinLaw", name := "byteZero", desc := "(JI)Z" } : Jvm.MethodName) method_3_code (3 : Nat) (Option.some Jvm.ClassFile.FieldType.boolean), Jvm.Cond.code ({ cls := "com/example/mopac/mopac/core/AlignmentFilter", name := "holdsZeroMaskingLast", desc := "(J)Z" } : Jvm.MethodName) prog_12_method_13_code (2 : Nat) (Option.some Jvm.ClassFile.FieldType.boolean)]
set_option maxRecDepth 65536 in
theorem codes_eq : words1.filter isCode = codes1 := rfl
theorem w_codes : ∀ c ∈ words1.filter isCode, c.before args0 about1 = true := by
  rw [codes_eq]
  intro c hc
  simp only [codes1, List.mem_cons, List.not_mem_nil, or_false] at hc
  rcases hc with rfl | rfl | rfl | rfl
  · exact w_c0
  · exact w_c1
  · exact w_c2
  · exact w_c3
set_option maxRecDepth 65536 in
theorem w_t1 : (words1.take 24).all (fun c => isCode c || c.before args0 about1) = true := by decide +kernel
set_option maxRecDepth 65536 in
theorem w_t2 : (words1.drop 24).all (fun c => isCode c || c.before args0 about1) = true := by decide +kernel
theorem w_tables : (allAtoms (Jvm.Cond.code x code maxLocals ret :: tables_1)).before args0 about1 = true := by
  rw [allAtoms_all]
  show words1.all (fun c => c.before args0 about1) = true
  refine all_split ?_ w_codes
  rw [← List.take_append_drop 24 words1, List.all_append, w_t1, w_t2]
  rfl
set_option maxRecDepth 65536 in
theorem w_case : (Jvm.Cond.and given_1 narrow_1).before args0 about1 = true := by decide +kernel
theorem w_applies : (headSpec (Jvm.Cond.code x code maxLocals ret :: tables_1) room_1).applies x e0.platform about1 = true :=
  (Spec.applies_iff w_frames).mpr ⟨w_running, w_runnable, w_alone, w_named, w_hears, w_ripe, w_room, w_tables⟩
theorem atStart : AtStart classFile x code maxLocals ret World_1 tables_1 room_1 Calls_1 rest_1 Pre_1 launch0 p0 e0 about1 theMethod args0 below0 :=
  ⟨lists_1, trivial, launch0.admits_env _ _ _, launch0.least_env, fairChoices_fair.cas, fairChoices_fair.clock, w_frames, w_args, w_heap, w_applies, trivial, trivial, w_case⟩
end start1
theorem witness_1 : WitnessClaimed_1 := ⟨start1.p0, start1.e0, start1.about1, start1.theMethod, start1.args0, start1.below0, start1.atStart⟩
end Jvm.Pilot.@@N@@
