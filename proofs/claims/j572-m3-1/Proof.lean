import JvmDerived
import JvmDerived.Pilot.@@N@@Statement
import JvmDerived.Pilot.@@N@@Code
set_option linter.unusedVariables false
set_option linter.unusedSimpArgs false
namespace Jvm.OwnKit
open Sem ClassFile Op Lib Jvm.Stand Jvm.Free Jvm.LawKit Jvm.RoadKit
/-! my own layer: an abstract heap of the objects and arrays that the law makes, and a run that goes on to its end -/
abbrev AH : Type := List (Nat × List Value)
abbrev Dic : Type := Nat → String × List (String × String × String)
def lf (n0 : Nat) : Value → Value
  | .ref i => .ref (n0 + i)
  | v => v
def aty : Nat → FieldType
  | 0 => .int
  | 1 => .char
  | 2 => .byte
  | 3 => .long
  | 4 => .boolean
  | _ => .short
def asI : Option Value → Option Int32
  | some (.int x) => some x
  | _ => none
def asJ : Option Value → Option Int64
  | some (.long x) => some x
  | _ => none
def asR : Option Value → Option Nat
  | some (.ref x) => some x
  | _ => none
theorem asI_s {o : Option Value} {x : Int32} (h : asI o = some x) : o = some (.int x) := by
  unfold asI at h; split at h <;> simp_all
theorem asJ_s {o : Option Value} {x : Int64} (h : asJ o = some x) : o = some (.long x) := by
  unfold asJ at h; split at h <;> simp_all
theorem asR_s {o : Option Value} {x : Nat} (h : asR o = some x) : o = some (.ref x) := by
  unfold asR at h; split at h <;> simp_all
/-- a field, a component: read, written -/
def h_fget (A : AH) (t a k : Nat) : Option Value := match A[a]? with
  | some (t', vs) => if t' = t then vs[k]? else none
  | none => none
def h_fset (A : AH) (t a k : Nat) (v : Value) : Option AH := match A[a]? with
  | some (t', vs) => if t' = t ∧ k < vs.length then some (A.set a (t', vs.set k v)) else none
  | none => none
def h_aget (A : AH) (t a : Nat) (j : Int32) : Option Value := if j < 0 then none else h_fget A t a j.toNatClampNeg
def h_aset (A : AH) (t a : Nat) (j : Int32) (v : Value) : Option AH := if j < 0 then none else h_fset A t a j.toNatClampNeg v
def h_alen (A : AH) (t a : Nat) : Option Int32 := match A[a]? with
  | some (t', vs) => if t' = t then some vs.length.toInt32 else none
  | none => none
def h_onew (A : AH) (t : Nat) (ds : List Value) : Option (Nat × AH) := some (A.length, A ++ [(t, ds)])
def h_anew (A : AH) (t cap : Nat) (n : Int32) (d : Value) : Option (Nat × AH) := if n < 0 ∨ cap < n.toNatClampNeg then none else some (A.length, A ++ [(t, List.replicate n.toNatClampNeg d)])
def h_isA (A : AH) (t a : Nat) : Option Unit := match A[a]? with
  | some (t', _) => if t' = t then some () else none
  | none => none
/-- what the heap holds of them -/
def OKa (Z : State) (h : Heap) (a : Addr) (ty : FieldType) (vs : List Value) : Prop := ∃ cl : Cell, Arr Z h a cl ty ∧ cl.slots.toList = vs ∧ vs.length < 2 ^ 31 ∧ ∀ v ∈ vs, fits ty v = true
def OKo (Z : State) (h : Heap) (a : Addr) (C : String) (L : List (String × String × String)) (vs : List Value) : Prop := Exa Z h a C ∧ ∀ (k : Nat) (O n d : String) (v : Value), L[k]? = some (O, n, d) → vs[k]? = some v → Fld Z h a O n d v
def OKx (D : Dic) (Z : State) (h : Heap) (a : Addr) (t : Nat) (vs : List Value) : Prop := (t < 10 → OKa Z h a (aty t) vs) ∧ (10 ≤ t → OKo Z h a (D t).1 (D t).2 vs)
def Rep (D : Dic) (Z : State) (n0 : Nat) (h : Heap) (A : AH) : Prop := h.size = n0 + A.length ∧ ∀ (i t : Nat) (vs : List Value), A[i]? = some (t, vs) → OKx D Z h (n0 + i) t (vs.map (lf n0))
def Sep (Z : State) (L : List (String × String × String)) : Prop := ∀ (k k' : Nat) (O n d O' n' d' : String), L[k]? = some (O, n, d) → L[k']? = some (O', n', d') → k ≠ k' → Jvm.RoadKit.slotOf Z O n d ≠ Jvm.RoadKit.slotOf Z O' n' d'
theorem Sep.nil {Z : State} : Sep Z [] := fun k k' O n d O' n' d' h => by simp at h
theorem sep_of {Z : State} {a0 : Array Value} {C : String} {L : List (String × String × String)} (hl : ∀ x ∈ L, Laid Z a0 C x.1 x.2.1 x.2.2 ∧ (parseFieldDescriptor x.2.2).isSome = true) (hn : (L.map fun x => x.2.1).Nodup) : Sep Z L := by
  intro k k' O n d O' n' d' h h' ne
  obtain ⟨l1, p1⟩ := hl _ (List.mem_of_getElem? h)
  obtain ⟨l2, p2⟩ := hl _ (List.mem_of_getElem? h')
  obtain ⟨t1, e1⟩ := Option.isSome_iff_exists.mp p1
  obtain ⟨t2, e2⟩ := Option.isSome_iff_exists.mp p2
  refine slot_ne l1 l2 ?_ e1 e2
  intro q
  obtain ⟨b1, g1⟩ := List.getElem?_eq_some_iff.mp h
  obtain ⟨b2, g2⟩ := List.getElem?_eq_some_iff.mp h'
  refine ne ((List.getElem_inj (xs := L.map fun x => x.2.1) (h₀ := by simpa using b1) (h₁ := by simpa using b2) hn).mp ?_)
  simp only [List.getElem_map, g1, g2]; exact q
section Facts
variable {D : Dic} {Z : State} {n0 : Nat} {h h' : Heap} {A A' : AH} {t a k : Nat} {v : Value}
theorem fget_s (hg : h_fget A t a k = some v) : ∃ vs, A[a]? = some (t, vs) ∧ vs[k]? = some v := by
  unfold h_fget at hg; split at hg
  · rename_i t' vs e
    split at hg
    · rename_i q; subst q; exact ⟨vs, e, hg⟩
    · cases hg
  · cases hg
theorem fset_s (hg : h_fset A t a k v = some A') : ∃ vs, A[a]? = some (t, vs) ∧ k < vs.length ∧ A' = A.set a (t, vs.set k v) := by
  unfold h_fset at hg; split at hg
  · rename_i t' vs e
    split at hg
    · rename_i q; obtain ⟨rfl, q⟩ := q; exact ⟨vs, e, q, (Option.some.inj hg).symm⟩
    · cases hg
  · cases hg
theorem aget_s {j : Int32} (hg : h_aget A t a j = some v) : ¬ j < 0 ∧ h_fget A t a j.toNatClampNeg = some v := by
  unfold h_aget at hg; split at hg
  · cases hg
  · exact ⟨by assumption, hg⟩
theorem aset_s {j : Int32} (hg : h_aset A t a j v = some A') : ¬ j < 0 ∧ h_fset A t a j.toNatClampNeg v = some A' := by
  unfold h_aset at hg; split at hg
  · cases hg
  · exact ⟨by assumption, hg⟩
theorem isA_s {u : Unit} (hg : h_isA A t a = some u) : ∃ vs, A[a]? = some (t, vs) := by
  unfold h_isA at hg; split at hg
  · rename_i t' vs e
    split at hg
    · rename_i q; subst q; exact ⟨vs, e⟩
    · cases hg
  · cases hg
theorem Rep.exa (RA : Rep D Z n0 h A) (ht : 10 ≤ t) {vs : List Value} (hA : A[a]? = some (t, vs)) : Exa Z h (n0 + a) (D t).1 := ((RA.2 a t vs hA).2 ht).1
theorem Rep.fld (RA : Rep D Z n0 h A) (ht : 10 ≤ t) (hg : h_fget A t a k = some v) {O n d : String} (hk : (D t).2[k]? = some (O, n, d)) : Fld Z h (n0 + a) O n d (lf n0 v) := by
  obtain ⟨vs, e, q⟩ := fget_s hg
  exact ((RA.2 a t vs e).2 ht).2 k O n d _ hk (by simp [q])
theorem Rep.arr (RA : Rep D Z n0 h A) (ht : t < 10) {vs : List Value} (hA : A[a]? = some (t, vs)) : ∃ cl : Cell, Arr Z h (n0 + a) cl (aty t) ∧ cl.slots.toList = vs.map (lf n0) ∧ vs.length < 2 ^ 31 ∧ ∀ v ∈ vs.map (lf n0), fits (aty t) v = true := by
  obtain ⟨cl, h1, h2, h3, h4⟩ := (RA.2 a t vs hA).1 ht
  exact ⟨cl, h1, h2, by simpa using h3, h4⟩
theorem Rep.at (RA : Rep D Z n0 h A) (ht : t < 10) {j : Int32} (hg : h_aget A t a j = some v) : ∃ cl : Cell, Arr Z h (n0 + a) cl (aty t) ∧ ¬ (j < 0 ∨ cl.slots.size ≤ j.toNatClampNeg) ∧ cl.slots[j.toNatClampNeg]? = some (lf n0 v) := by
  obtain ⟨hj, hg⟩ := aget_s hg
  obtain ⟨vs, e, q⟩ := fget_s hg
  obtain ⟨cl, h1, h2, -⟩ := RA.arr ht e
  have h4 : cl.slots[j.toNatClampNeg]? = some (lf n0 v) := by rw [← Array.getElem?_toList, h2]; simp [q]
  refine ⟨cl, h1, ?_, h4⟩
  rintro (c | c)
  · exact hj c
  · exact absurd (Array.getElem?_eq_some_iff.mp h4).1 (Nat.not_lt.mpr c)
theorem OKx.other {sl : Nat} {w : Value} {b : Addr} {vs : List Value} (X : OKx D Z h b t vs) (W : Wr h h' a sl w) (ne : b ≠ a) : OKx D Z h' b t vs := by
  refine ⟨fun q => ?_, fun q => ?_⟩
  · obtain ⟨cl, h1, h2⟩ := X.1 q; exact ⟨cl, h1.other W ne, h2⟩
  · obtain ⟨h1, h2⟩ := X.2 q; exact ⟨h1.wr W, fun k O n d v e1 e2 => (h2 k O n d v e1 e2).other W (Or.inl ne)⟩
theorem Rep.set (RA : Rep D Z n0 h A) {sl : Nat} {w : Value} {vs : List Value} (hl : a < A.length) (W : Wr h h' (n0 + a) sl w) (hN : OKx D Z h' (n0 + a) t (vs.map (lf n0))) : Rep D Z n0 h' (A.set a (t, vs)) := by
  refine ⟨by rw [W.size, RA.1, List.length_set], fun i t' vs' e => ?_⟩
  by_cases q : a = i
  · subst q
    rw [List.getElem?_set_self hl] at e
    obtain ⟨rfl, rfl⟩ := Prod.mk.inj (Option.some.inj e); exact hN
  · rw [List.getElem?_set_ne q] at e
    exact (RA.2 i t' vs' e).other W (fun z => q (Nat.add_left_cancel z).symm)
theorem Rep.wrF (sep : Sep Z (D t).2) (RA : Rep D Z n0 h A) (ht : 10 ≤ t) (hp : h_fset A t a k v = some A') {O n d : String} (hk : (D t).2[k]? = some (O, n, d)) (W : Wr h h' (n0 + a) (Jvm.RoadKit.slotOf Z O n d) (lf n0 v)) : Rep D Z n0 h' A' := by
  obtain ⟨vs, e, q, rfl⟩ := fset_s hp
  refine RA.set (List.getElem?_eq_some_iff.mp e).1 W ⟨fun z => absurd ht (by omega), fun _ => ?_⟩
  obtain ⟨h1, h2⟩ := (RA.2 a t vs e).2 ht
  refine ⟨h1.wr W, fun k' O' n' d' v' e1 e2 => ?_⟩
  rw [List.map_set] at e2
  by_cases c : k = k'
  · subst c
    rw [List.getElem?_set_self (by simpa using q)] at e2
    cases hk.symm.trans e1
    cases e2
    exact (h2 k O n d _ hk (List.getElem?_eq_getElem (by simpa using q))).same W
  · rw [List.getElem?_set_ne c] at e2
    exact (h2 k' O' n' d' v' e1 e2).other W (Or.inr (sep k' k O' n' d' O n d e1 hk (Ne.symm c)))
theorem Rep.wrA (RA : Rep D Z n0 h A) (ht : t < 10) {j : Int32} (hp : h_aset A t a j v = some A') (hft : fits (aty t) (lf n0 v) = true) (W : Wr h h' (n0 + a) j.toNatClampNeg (lf n0 v)) : Rep D Z n0 h' A' := by
  obtain ⟨-, hp⟩ := aset_s hp
  obtain ⟨vs, e, q, rfl⟩ := fset_s hp
  refine RA.set (List.getElem?_eq_some_iff.mp e).1 W ⟨fun z => ?_, fun z => absurd ht (by omega)⟩
  obtain ⟨cl, h1, h2, h3, h4⟩ := RA.arr ht e
  refine ⟨_, h1.same W, ?_, by simpa using h3, fun u hu => ?_⟩
  · show (cl.slots.setIfInBounds _ _).toList = _
    rw [Array.toList_setIfInBounds, h2, List.map_set]
  · rw [List.map_set] at hu
    rcases List.mem_or_eq_of_mem_set hu with q | q
    · exact h4 u q
    · rw [q]; exact hft
theorem Rep.into (RA : Rep D Z n0 h A) (ht : t < 10) {j : Int32} (hp : h_aset A t a j v = some A') : ∃ cl : Cell, Arr Z h (n0 + a) cl (aty t) ∧ ¬ (j < 0 ∨ cl.slots.size ≤ j.toNatClampNeg) := by
  obtain ⟨hj, hp⟩ := aset_s hp
  obtain ⟨vs, e, q, rfl⟩ := fset_s hp
  obtain ⟨cl, h1, h2, -⟩ := RA.arr ht e
  refine ⟨cl, h1, ?_⟩
  have : cl.slots.size = vs.length := by rw [← Array.length_toList, h2]; simp
  rintro (c | c)
  · exact hj c
  · omega
theorem OKx.ext {b : Addr} {vs : List Value} (X : OKx D Z h b t vs) (E : Ext h h') : OKx D Z h' b t vs := by
  refine ⟨fun q => ?_, fun q => ?_⟩
  · obtain ⟨cl, h1, h2⟩ := X.1 q; exact ⟨cl, h1.ext E, h2⟩
  · obtain ⟨h1, h2⟩ := X.2 q; exact ⟨h1.ext E, fun k O n d v e1 e2 => (h2 k O n d v e1 e2).ext E⟩
theorem ext_push (h : Heap) (cl : Cell) : Ext h (h.push cl) := ⟨by simp, fun a c e => by rw [Array.getElem?_push_lt (Array.getElem?_eq_some_iff.mp e).1]; exact (Array.getElem?_eq_getElem _).symm.trans e⟩
theorem Rep.push (RA : Rep D Z n0 h A) {cl : Cell} {vs : List Value} (hN : OKx D Z (h.push cl) h.size t (vs.map (lf n0))) : Rep D Z n0 (h.push cl) (A ++ [(t, vs)]) := by
  refine ⟨by rw [Array.size_push, RA.1, List.length_append]; rfl, fun i t' vs' e => ?_⟩
  by_cases q : i < A.length
  · rw [List.getElem?_append_left q] at e
    exact (RA.2 i t' vs' e).ext (ext_push h cl)
  · rw [List.getElem?_append_right (Nat.le_of_not_lt q)] at e
    have e0 : i - A.length = 0 := by
      have := (List.getElem?_eq_some_iff.mp e).1; simp at this; omega
    rw [e0] at e
    obtain ⟨rfl, rfl⟩ := Prod.mk.inj (Option.some.inj e)
    have : i = A.length := by omega
    have e2 : n0 + i = h.size := by rw [RA.1, this]
    rw [e2]; exact hN
end Facts
/-! reading and writing, in plain words -/
theorem eq64 {x y : Int} (h : (x - y) % 18446744073709551616 = 0) (x1 : -9223372036854775808 ≤ x) (x2 : x < 9223372036854775808) (y1 : -9223372036854775808 ≤ y) (y2 : y < 9223372036854775808) : x = y := by omega
theorem eq32 {x y : Int} (h : (x - y) % 4294967296 = 0) (x1 : -2147483648 ≤ x) (x2 : x < 2147483648) (y1 : -2147483648 ≤ y) (y2 : y < 2147483648) : x = y := by omega
theorem nar1 : nar .boolean (1 : Int32) = 1 := by decide
theorem nar0 : nar .boolean (0 : Int32) = 0 := by decide
theorem nclamp (j : Int32) : j.toNatClampNeg = j.toInt.toNat := rfl
theorem nneg {j : Int32} : ¬ j < 0 ↔ 0 ≤ j.toInt := by rw [Int32.lt_iff_toInt_lt]; show ¬ _ < (0 : Int) ↔ _; omega
theorem aset_ok {A : AH} {t a : Nat} {vs : List Value} {j : Int32} {v : Value} (hA : A[a]? = some (t, vs)) (h0 : 0 ≤ j.toInt) (h1 : j.toInt < vs.length) : h_aset A t a j v = some (A.set a (t, vs.set j.toInt.toNat v)) := by
  unfold h_aset; rw [if_neg (nneg.mpr h0)]; unfold h_fset; rw [hA]; simp only [nclamp]
  have : j.toInt.toNat < vs.length := by omega
  rw [if_pos ⟨trivial, this⟩]
theorem aget_ok {A : AH} {t a : Nat} {vs : List Value} {j : Int32} (hA : A[a]? = some (t, vs)) (h0 : 0 ≤ j.toInt) : h_aget A t a j = vs[j.toInt.toNat]? := by
  unfold h_aget; rw [if_neg (nneg.mpr h0)]; unfold h_fget; rw [hA]; simp only [nclamp, if_true]
theorem anew_ok {A : AH} {t cap : Nat} {n : Int32} {d : Value} (h0 : 0 ≤ n.toInt) (h1 : n.toInt ≤ cap) : h_anew A t cap n d = some (A.length, A ++ [(t, List.replicate n.toInt.toNat d)]) := by
  unfold h_anew; rw [nclamp, if_neg (by rintro (c | c); exact nneg.mpr h0 c; omega)]
theorem aset1 {t : Nat} {vs : List Value} {j : Int32} {v : Value} (h0 : 0 ≤ j.toInt) (h1 : j.toInt < vs.length) : h_aset [(t, vs)] t 0 j v = some [(t, vs.set j.toInt.toNat v)] := aset_ok rfl h0 h1
theorem aget1 {t : Nat} {vs : List Value} {j : Int32} (h0 : 0 ≤ j.toInt) : h_aget [(t, vs)] t 0 j = vs[j.toInt.toNat]? := aget_ok rfl h0
/-! ### a run that goes on to its end -/
def Go (p : Program) (e : Env) (below : List Frame) (S : State) (G : Outcome → State → Prop) : Prop := ∃ t o, Steps p.tables e below S t ∧ t.status = .running ∧ Ended t below o ∧ G o t
def QR (D : Dic) (Z : State) (n0 : Nat) (r : Option Value) (A : AH) (v : Option Value) (h : Heap) (L : List Loc) : Prop := v = r ∧ Fr n0 L ∧ Rep D Z n0 h A
def Fini (D : Dic) (Z : State) (n0 : Nat) (s : State) (R : Room) (r : Option Value) (A : AH) : Outcome → State → Prop := fun o t => ∃ v L, o = .returned v ∧ QR D Z n0 r A v t.heap L ∧ FrameEnd s o t L R.cells R.slots
def On (p : Program) (l : Launch) (e : Env) (R : Room) (s : State) (m : MethodId) (args : Array Value) (below : List Frame) (meth : Method) (c : Code) (D : Dic) (Z : State) (n0 : Nat) (T : State) (A : AH) (cells slots : Nat) : Prop :=
  ∃ locs, Stand p l e R s m args below meth c T locs cells slots ∧ Fr n0 locs ∧ Rep D Z n0 T.heap A
def Cx (p : Program) (l : Launch) (e : Env) (R : Room) (s : State) (m : MethodId) (meth : Method) (c : Code) (Z : State) (a0 : Array Value) (W : List Jvm.Cond) (own nm : String) (bytes : ByteArray) (ml : Nat) (rt : Option FieldType) : Prop :=
  p.tables.exec = Jvm.exec ∧ Z.Warmed39 s.vm ∧ s.vm.findClass own = some m.cls ∧ c.code = bytes ∧ c.maxLocals = ml ∧ meth.sig.returnType = rt ∧ meth.locks = false ∧ meth.name = nm ∧ ∀ d ∈ W, d.before a0 Z = true
def Met (l : Launch) (D : Dic) (Z : State) (n0 : Nat) (y : MethodName) (bytes : ByteArray) (ml : Nat) (rt : Option FieldType) (R : Room) (as : List Value) (A : AH) (r : Option Value) (A' : AH) : Prop :=
  ∀ (ws : List Jvm.Cond) (h0 : Heap), Rep D Z n0 h0 A → MetFree l y (head1 (Jvm.Cond.code y bytes ml rt :: ws) R) (fun a U => a = as.toArray ∧ Z.Warmed39 U.vm ∧ U.heap = h0) (fun _ _ _ _ _ => True) (fun _ U o U' => ∃ v L, o = .returned v ∧ QR D Z n0 r A' v U'.heap L ∧ FrameEnd U o U' L R.cells R.slots)
section Walk
variable {p : Program} {l : Launch} {e : Env} {R : Room} {s : State} {m : MethodId} {args : Array Value} {below : List Frame} {meth : Method} {c : Code} {Z : State} {a0 : Array Value} {W : List Jvm.Cond} {own nm : String} {bytes : ByteArray} {ml : Nat} {rt : Option FieldType} {D : Dic} {n0 : Nat} {T : State} {A A' : AH} {cells slots : Nat} {G : Outcome → State → Prop} {pc : Nat} {Ls : Array Slot} {st : List Value}
theorem go {S S' : State} (h : ∀ t, Steps p.tables e below S' t → Steps p.tables e below S t) (k : Go p e below S' G) : Go p e below S G := by
  obtain ⟨t, o, h1, h2⟩ := k; exact ⟨t, o, h t h1, h2⟩
theorem On.here (X : On p l e R s m args below meth c D Z n0 T A cells slots) : At T m c below := by obtain ⟨_, X, -⟩ := X; exact X.here
theorem On.more {cells' slots' : Nat} (X : On p l e R s m args below meth c D Z n0 T A cells slots) (hc : cells ≤ cells') (hs : slots ≤ slots') : On p l e R s m args below meth c D Z n0 T A cells' slots' := by
  obtain ⟨locs, X, N⟩ := X; exact ⟨locs, X.more hc hs, N⟩
theorem wd {d : Jvm.Cond} (K : Cx p l e R s m meth c Z a0 W own nm bytes ml rt) {i : Nat} (h : W[i]? = some d) : d.before a0 Z = true := K.2.2.2.2.2.2.2.2 d (List.mem_of_getElem? h)
theorem dc (K : Cx p l e R s m meth c Z a0 W own nm bytes ml rt) {r : Except DecodeError (Instr × Nat)} (h : decode bytes pc = r) : decode c.code pc = r := K.2.2.2.1 ▸ h
theorem ldcI (K : Cx p l e R s m meth c Z a0 W own nm bytes ml rt) (X : On p l e R s m args below meth c D Z n0 T A cells slots) {i idx : Nat} {v : Int32} (w : W[i]? = some (.constant own idx v)) (hd : decode bytes pc = .ok (.ldc idx, 2))
    {pc' : Nat} (hp : pc + 2 = pc') (k : Go p e below (T.setTop (mkF m pc'  Ls (.int v :: st))) G) : Go p e below (T.setTop (mkF m pc Ls st)) G := by
  subst hp
  obtain ⟨locs, X, -⟩ := X
  exact go (X.ldcInt K.1 K.2.2.1 (mvT K.2.1 (wd K w)) (g := mkF m pc Ls st) rfl (dc K hd)) k
theorem ldcwI (K : Cx p l e R s m meth c Z a0 W own nm bytes ml rt) (X : On p l e R s m args below meth c D Z n0 T A cells slots) {i idx : Nat} {v : Int32} (w : W[i]? = some (.constant own idx v)) (hd : decode bytes pc = .ok (.ldc_w idx, 3))
    {pc' : Nat} (hp : pc + 3 = pc') (k : Go p e below (T.setTop (mkF m pc'  Ls (.int v :: st))) G) : Go p e below (T.setTop (mkF m pc Ls st)) G := by
  subst hp
  obtain ⟨locs, X, -⟩ := X
  exact go (X.ldcwInt K.1 K.2.2.1 (mvT K.2.1 (wd K w)) (g := mkF m pc Ls st) rfl (dc K hd)) k
theorem ldcL (K : Cx p l e R s m meth c Z a0 W own nm bytes ml rt) (X : On p l e R s m args below meth c D Z n0 T A cells slots) {i idx : Nat} {v : Int64} (w : W[i]? = some (.constantLong own idx v)) (hd : decode bytes pc = .ok (.ldc2_w idx, 3))
    {pc' : Nat} (hp : pc + 3 = pc') (k : Go p e below (T.setTop (mkF m pc'  Ls (.long v :: st))) G) : Go p e below (T.setTop (mkF m pc Ls st)) G := by
  subst hp
  obtain ⟨locs, X, -⟩ := X
  exact go (X.ldc2Long K.1 K.2.2.1 (mvT K.2.1 (wd K w)) (g := mkF m pc Ls st) rfl (dc K hd)) k
/-! the returns -/
theorem retV (K : Cx p l e R s m meth c Z a0 W own nm bytes ml none) (X : On p l e R s m args below meth c D Z n0 T A cells slots) (hc : cells ≤ R.cells) (hs : slots ≤ R.slots) (hd : decode bytes pc = .ok (.return_, 1)) :
    Go p e below (T.setTop (mkF m pc Ls [])) (Fini D Z n0 s R none A) := by
  obtain ⟨locs, X, N, RA⟩ := X
  obtain ⟨fs, hr, hrun, hended, hW, hsame⟩ := X.leave (v := none) (fun _ => rfl) K.2.2.2.2.2.2.1
  exact ⟨_, _, X.returnOut K.1 K.2.2.2.2.2.1 (dc K hd) hr, hrun, hended, none, locs, rfl, ⟨rfl, N, RA⟩, ⟨_, rfl⟩, hW, hsame.mono hc hs⟩
theorem retX {t : FieldType} {i : Instr} {w : Value} (K : Cx p l e R s m meth c Z a0 W own nm bytes ml (some t)) (X : On p l e R s m args below meth c D Z n0 T A cells slots) (hc : cells ≤ R.cells) (hs : slots ≤ R.slots) (hd : decode bytes pc = .ok (i, 1)) (hn : narrow t w = w)
    (hi : (i = .ireturn ∧ (t = .int ∨ t = .boolean ∨ t = .byte ∨ t = .char ∨ t = .short) ∧ ∃ z, w = .int z) ∨ (i = .lreturn ∧ t = .long ∧ ∃ z, w = .long z) ∨ (i = .dreturn ∧ t = .double ∧ ∃ z, w = .double z) ∨ (i = .freturn ∧ t = .float ∧ ∃ z, w = .float z) ∨ (i = .areturn ∧ t.isReference = true ∧ w.isRef = true)) :
    Go p e below (T.setTop (mkF m pc Ls (w :: st))) (Fini D Z n0 s R (some w) A) := by
  obtain ⟨locs, X, N, RA⟩ := X
  obtain ⟨fs, hr, hrun, hended, hW, hsame⟩ := X.leave (v := some w) (fun h => by rw [K.2.2.2.2.2.1] at h; cases h) K.2.2.2.2.2.2.1
  exact ⟨_, _, Jvm.RoadKit.retOut X K.1 K.2.2.2.2.2.1 hn hi (dc K hd) hr, hrun, hended, some w, locs, rfl, ⟨rfl, N, RA⟩, ⟨_, rfl⟩, hW, hsame.mono hc hs⟩
theorem retI {z : Int32} (K : Cx p l e R s m meth c Z a0 W own nm bytes ml (some .int)) (X : On p l e R s m args below meth c D Z n0 T A cells slots) (hc : cells ≤ R.cells) (hs : slots ≤ R.slots) (hd : decode bytes pc = .ok (.ireturn, 1)) :
    Go p e below (T.setTop (mkF m pc Ls (.int z :: st))) (Fini D Z n0 s R (some (.int z)) A) := retX K X hc hs hd rfl (Or.inl ⟨rfl, Or.inl rfl, z, rfl⟩)
theorem retJ {z : Int64} (K : Cx p l e R s m meth c Z a0 W own nm bytes ml (some .long)) (X : On p l e R s m args below meth c D Z n0 T A cells slots) (hc : cells ≤ R.cells) (hs : slots ≤ R.slots) (hd : decode bytes pc = .ok (.lreturn, 1)) :
    Go p e below (T.setTop (mkF m pc Ls (.long z :: st))) (Fini D Z n0 s R (some (.long z)) A) := retX K X hc hs hd rfl (Or.inr (Or.inl ⟨rfl, rfl, z, rfl⟩))
theorem retR {a : Addr} {t : FieldType} (K : Cx p l e R s m meth c Z a0 W own nm bytes ml (some t)) (ht : t.isReference = true) (hn : narrow t (.ref a) = .ref a) (X : On p l e R s m args below meth c D Z n0 T A cells slots) (hc : cells ≤ R.cells) (hs : slots ≤ R.slots) (hd : decode bytes pc = .ok (.areturn, 1)) :
    Go p e below (T.setTop (mkF m pc Ls (.ref a :: st))) (Fini D Z n0 s R (some (.ref a)) A) := retX K X hc hs hd hn (Or.inr (Or.inr (Or.inr (Or.inr ⟨rfl, ht, rfl⟩))))
theorem retB {z : Int32} {t : FieldType} (K : Cx p l e R s m meth c Z a0 W own nm bytes ml (some t)) (ht : t = .boolean ∨ t = .byte ∨ t = .char ∨ t = .short) (X : On p l e R s m args below meth c D Z n0 T A cells slots) (hc : cells ≤ R.cells) (hs : slots ≤ R.slots) (hd : decode bytes pc = .ok (.ireturn, 1)) :
    Go p e below (T.setTop (mkF m pc Ls (.int z :: st))) (Fini D Z n0 s R (some (.int (nar t z))) A) := by
  obtain ⟨locs, X, N, RA⟩ := X
  obtain ⟨fs, hr, hrun, hended, hW, hsame⟩ := X.leave (v := some (.int (nar t z))) (fun h => by rw [K.2.2.2.2.2.1] at h; cases h) K.2.2.2.2.2.2.1
  exact ⟨_, _, Jvm.RoadKit.retN X K.1 K.2.2.2.2.2.1 ht (dc K hd) hr, hrun, hended, some (.int (nar t z)), locs, rfl, ⟨rfl, N, RA⟩, ⟨_, rfl⟩, hW, hsame.mono hc hs⟩
/-! fields -/
theorem getf (K : Cx p l e R s m meth c Z a0 W own nm bytes ml rt) (X : On p l e R s m args below meth c D Z n0 T A cells slots) {i idx t f a : Nat} {O n d : String} {v : Value} (w : W[i]? = some (.fieldLink own idx O n d)) (hd : decode bytes pc = .ok (.getfield idx, 3))
    (ht : 10 ≤ t) (hk : (D t).2[f]? = some (O, n, d)) (hg : h_fget A t a f = some v)
    {pc' : Nat} (hp : pc + 3 = pc') (k : ∀ T', On p l e R s m args below meth c D Z n0 T' A cells slots → Go p e below (T'.setTop (mkF m pc'  Ls (lf n0 v :: st))) G) : Go p e below (T.setTop (mkF m pc Ls (.ref (n0 + a) :: st))) G := by
  subst hp
  obtain ⟨locs, X, N, RA⟩ := X
  obtain ⟨T', X', e', stp⟩ := getF X K.1 K.2.1 K.2.2.1 (host := "") (Or.inl (wd K w)) Via.refl rfl (RA.fld ht hg hk) (g := mkF m pc Ls (.ref (n0 + a) :: st)) rfl rfl (dc K hd)
  exact go stp (k T' ⟨locs, X', N, by rw [e']; exact RA⟩)
theorem getfI (K : Cx p l e R s m meth c Z a0 W own nm bytes ml rt) (X : On p l e R s m args below meth c D Z n0 T A cells slots) {i idx t f a : Nat} {O n d : String} {v : Int32} (w : W[i]? = some (.fieldLink own idx O n d)) (hd : decode bytes pc = .ok (.getfield idx, 3))
    (ht : 10 ≤ t) (hk : (D t).2[f]? = some (O, n, d)) (hg : asI (h_fget A t a f) = some v)
    {pc' : Nat} (hp : pc + 3 = pc') (k : ∀ T', On p l e R s m args below meth c D Z n0 T' A cells slots → Go p e below (T'.setTop (mkF m pc' Ls (.int v :: st))) G) : Go p e below (T.setTop (mkF m pc Ls (.ref (n0 + a) :: st))) G := getf K X w hd ht hk (asI_s hg) hp k
theorem getfJ (K : Cx p l e R s m meth c Z a0 W own nm bytes ml rt) (X : On p l e R s m args below meth c D Z n0 T A cells slots) {i idx t f a : Nat} {O n d : String} {v : Int64} (w : W[i]? = some (.fieldLink own idx O n d)) (hd : decode bytes pc = .ok (.getfield idx, 3))
    (ht : 10 ≤ t) (hk : (D t).2[f]? = some (O, n, d)) (hg : asJ (h_fget A t a f) = some v)
    {pc' : Nat} (hp : pc + 3 = pc') (k : ∀ T', On p l e R s m args below meth c D Z n0 T' A cells slots → Go p e below (T'.setTop (mkF m pc' Ls (.long v :: st))) G) : Go p e below (T.setTop (mkF m pc Ls (.ref (n0 + a) :: st))) G := getf K X w hd ht hk (asJ_s hg) hp k
theorem getfR (K : Cx p l e R s m meth c Z a0 W own nm bytes ml rt) (X : On p l e R s m args below meth c D Z n0 T A cells slots) {i idx t f a : Nat} {O n d : String} {v : Nat} (w : W[i]? = some (.fieldLink own idx O n d)) (hd : decode bytes pc = .ok (.getfield idx, 3))
    (ht : 10 ≤ t) (hk : (D t).2[f]? = some (O, n, d)) (hg : asR (h_fget A t a f) = some v)
    {pc' : Nat} (hp : pc + 3 = pc') (k : ∀ T', On p l e R s m args below meth c D Z n0 T' A cells slots → Go p e below (T'.setTop (mkF m pc' Ls (.ref (n0 + v) :: st))) G) : Go p e below (T.setTop (mkF m pc Ls (.ref (n0 + a) :: st))) G := getf K X w hd ht hk (asR_s hg) hp k
theorem putf (K : Cx p l e R s m meth c Z a0 W own nm bytes ml rt) (sep : ∀ t, Sep Z (D t).2) (X : On p l e R s m args below meth c D Z n0 T A cells slots) {i idx t f a kk i2 : Nat} {O n d : String} {va v : Value} {ty : FieldType} (w : W[i]? = some (.fieldLink own idx O n d)) (hd : decode bytes pc = .ok (.putfield idx, 3))
    (ht : 10 ≤ t) (hk : (D t).2[f]? = some (O, n, d)) (wl : (Jvm.Cond.lays (D t).1 O n d).before a0 Z = true ∨ ((Jvm.Cond.laysFinal (D t).1 O n d).before a0 Z = true ∧ own = O ∧ nm = "<init>")) (wi : W[i2]? = some (.instantiable (D t).1 kk))
    (hty : parseFieldDescriptor d = some ty) (hn : narrow ty v = lf n0 va) (hf : fits ty (lf n0 va) = true) (hp : h_fset A t a f va = some A')
    {pc' : Nat} (hp : pc + 3 = pc') (k : ∀ T', On p l e R s m args below meth c D Z n0 T' A' cells slots → Go p e below (T'.setTop (mkF m pc'  Ls st)) G) : Go p e below (T.setTop (mkF m pc Ls (v :: .ref (n0 + a) :: st))) G := by
  subst hp
  obtain ⟨locs, X, N, RA⟩ := X
  obtain ⟨vs, hA, hlt, -⟩ := fset_s hp
  have F := RA.fld ht (show h_fget A t a f = some vs[f] by simp [h_fget, hA]) hk
  obtain ⟨T', h', X', e', W', stp⟩ := putFN X K.1 K.2.1 K.2.2.1 (wd K w) Via.refl rfl F (RA.exa ht hA) (wl.imp id fun q => ⟨q.1, q.2.1, K.2.2.2.2.2.2.2.1.trans q.2.2⟩) (wd K wi) hty hn hf (g := mkF m pc Ls (v :: .ref (n0 + a) :: st)) rfl rfl (dc K hd)
  exact go stp (k T' ⟨_, X', Fr.snoc X' N (Nat.le_add_right _ _), by rw [e']; exact RA.wrF (sep t) ht hp hk W'⟩)
/-! new -/
theorem newo (K : Cx p l e R s m meth c Z a0 W own nm bytes ml rt) (X : On p l e R s m args below meth c D Z n0 T A cells slots) {i1 i2 i3 idx n t : Nat} {ds : List Value} (w1 : W[i1]? = some (.classLink own idx (D t).1)) (w2 : W[i2]? = some (.instantiable (D t).1 n)) (w3 : W[i3]? = some (.initialized (D t).1))
    (hd : decode bytes pc = .ok (.new idx, 3)) (hc : cells + 1 ≤ R.cells) (hs : slots + n ≤ R.slots) (ht : 10 ≤ t) (hds : ∀ (k : Nat) (O f d : String) (v : Value), (D t).2[k]? = some (O, f, d) → ds[k]? = some v → ∃ ty, parseFieldDescriptor d = some ty ∧ Laid Z a0 (D t).1 O f d ∧ lf n0 v = defaultValue ty)
    {q : Nat × AH} (hq : h_onew A t ds = some q)
    {pc' : Nat} (hp : pc + 3 = pc') (k : ∀ T', On p l e R s m args below meth c D Z n0 T' q.2 (cells + 1) (slots + n) → Go p e below (T'.setTop (mkF m pc'  Ls (.ref (n0 + q.1) :: st))) G) : Go p e below (T.setTop (mkF m pc Ls st)) G := by
  subst hp
  cases hq
  obtain ⟨locs, X, N, RA⟩ := X
  obtain ⟨vm', cC, kC, h1, h2, h3, h4, X', stp⟩ := X.newCold K.1 K.2.2.1 (mvT K.2.1 (wd K w1)) (mvT K.2.1 (wd K w2)) (mvT K.2.1 (wd K w3)) (g := mkF m pc Ls st) rfl (dc K hd) hc hs
  have hZ := K.2.1
  rw [hZ.alike.findClass] at h1
  obtain ⟨kZ, z1, -⟩ := Vm.findClass_spec h1
  obtain ⟨k', z2, z3⟩ := hZ.alike.2.2 _ _ z1
  cases h2.symm.trans z2
  have ei : kC.instanceTypes = kZ.instanceTypes := by rw [z3]
  have hN : (T.heap.push { cls := cC, slots := kC.instanceTypes.map defaultValue, vm := .none })[T.heap.size]? = some { cls := cC, slots := kC.instanceTypes.map defaultValue, vm := .none } := by simp
  have hsz := RA.1
  refine go stp ?_
  rw [hsz]
  refine k _ ⟨locs, X', N, ?_⟩
  show Rep D Z n0 (T.heap.push _) _
  refine RA.push ⟨fun z => absurd ht (by omega), fun _ => ⟨⟨_, kZ, hN, h1, z1, rfl, fun _ => by simp [ei]⟩, fun j O f d v e1 e2 => ?_⟩⟩
  rw [List.getElem?_map, Option.map_eq_some_iff] at e2
  obtain ⟨v0, e2, rfl⟩ := e2
  obtain ⟨ty, p1, p2, p3⟩ := hds j O f d v0 e1 e2
  obtain ⟨c1, k1, cf, kf, i, f', a1, a2, a3, a4, a5, a6, -⟩ := p2.spec
  cases h1.symm.trans a1
  cases z1.symm.trans a2
  exact ⟨_, cf, kf, i, f', hN, a3, a4, by simp, rfl, a5, by simp [ei, a6, (State.fieldFound?_type a3 p1).2, p3]⟩
theorem newa (K : Cx p l e R s m meth c Z a0 W own nm bytes ml rt) (X : On p l e R s m args below meth c D Z n0 T A cells slots) {i1 t cap : Nat} {at' : ArrayType} {n : Int32} {dv : Value} (w1 : W[i1]? = some (.arrayClass (newarray.typeOf at'))) (hd : decode bytes pc = .ok (.newarray at', 2))
    (hb : cap * 8 ≤ 536870912) (hc : cells + 1 ≤ R.cells) (hs : slots + cap ≤ R.slots) (ht : t < 10) (hty : newarray.typeOf at' = aty t) (hdv : lf n0 dv = defaultValue (aty t)) {q : Nat × AH} (hq : h_anew A t cap n dv = some q)
    {pc' : Nat} (hp : pc + 2 = pc') (k : ∀ T', On p l e R s m args below meth c D Z n0 T' q.2 (cells + 1) (slots + cap) → Go p e below (T'.setTop (mkF m pc'  Ls (.ref (n0 + q.1) :: st))) G) : Go p e below (T.setTop (mkF m pc Ls (.int n :: st))) G := by
  subst hp
  unfold h_anew at hq
  split at hq
  · cases hq
  rename_i hn
  cases hq
  have hn1 : ¬ n < 0 := fun z => hn (Or.inl z)
  have hn2 : n.toNatClampNeg ≤ cap := Nat.le_of_not_lt fun z => hn (Or.inr z)
  have hn3 : n.toNatClampNeg < 2 ^ 31 := (back32 hn1).2
  obtain ⟨locs, X, N, RA⟩ := X
  have hZ := K.2.1
  have hcb : componentBytes (newarray.typeOf at') ≤ 8 := by cases at' <;> decide
  obtain ⟨cA, kA, comp, h1, h2, h3, X', stp⟩ := X.newarrayPrim K.1 (mvA hZ (wd K w1)) (g := mkF m pc Ls (.int n :: st)) rfl (dc K hd) rfl hn1 (Nat.le_trans (Nat.mul_le_mul hn2 hcb) hb) hc (by omega)
  rw [hZ.alike.findClass] at h1
  obtain ⟨kZ, z1, -⟩ := Vm.findClass_spec h1
  obtain ⟨k', z2, z3⟩ := hZ.alike.2.2 _ _ z1
  cases h2.symm.trans z2
  refine go stp ?_
  rw [RA.1]
  refine k _ ⟨locs, X'.more (Nat.le_refl _) (by omega), N, ?_⟩
  show Rep D Z n0 (T.heap.push _) _
  refine RA.push ⟨fun _ => ⟨_, ⟨by simp; rfl, ⟨by simp, kZ, z1, comp, by rw [← hty, ← h3, z3]⟩, by simp⟩, ?_, by simpa using hn3, fun v hv => ?_⟩, fun z => absurd ht (by omega)⟩
  · simp [hty, hdv]
  · rw [List.map_replicate] at hv
    rw [List.eq_of_mem_replicate hv, hdv]; cases aty t <;> rfl
/-! arrays -/
theorem h_alen' (K : Cx p l e R s m meth c Z a0 W own nm bytes ml rt) (X : On p l e R s m args below meth c D Z n0 T A cells slots) {t a : Nat} {n : Int32} (ht : t < 10) (hg : h_alen A t a = some n) (hd : decode bytes pc = .ok (.arraylength, 1))
    {pc' : Nat} (hp : pc + 1 = pc') (k : Go p e below (T.setTop (mkF m pc'  Ls (.int n :: st))) G) : Go p e below (T.setTop (mkF m pc Ls (.ref (n0 + a) :: st))) G := by
  subst hp
  obtain ⟨locs, X, N, RA⟩ := X
  unfold h_alen at hg
  split at hg
  · rename_i t' vs e
    split at hg
    · rename_i q; subst q
      cases hg
      obtain ⟨cl, h1, h2, -⟩ := RA.arr ht e
      have : cl.slots.size = vs.length := by rw [← Array.length_toList, h2]; simp
      rw [← this] at k
      exact go (X.arraylength K.1 h1.1 (State.isArrayOf_alike K.2.1.alike h1.2.1) (g := mkF m pc Ls (.ref (n0 + a) :: st)) rfl rfl (dc K hd)) k
    · cases hg
  · cases hg
theorem ald0 (K : Cx p l e R s m meth c Z a0 W own nm bytes ml rt) (X : On p l e R s m args below meth c D Z n0 T A cells slots) {a : Nat} {j : Int32} {v : Value} (hg : h_aget A 0 a j = some v) (hd : decode bytes pc = .ok (.iaload, 1))
    {pc' : Nat} (hp : pc + 1 = pc') (k : Go p e below (T.setTop (mkF m pc'  Ls (lf n0 v :: st))) G) : Go p e below (T.setTop (mkF m pc Ls (.int j :: .ref (n0 + a) :: st))) G := by
  subst hp
  obtain ⟨locs, X, N, RA⟩ := X
  obtain ⟨cl, h1, h2, h3⟩ := RA.at (by decide) hg
  exact go (X.iaload K.1 h1.1 (State.isArrayOf_alike K.2.1.alike h1.2.1) h1.2.2 h2 h3 (g := mkF m pc Ls (.int j :: .ref (n0 + a) :: st)) rfl rfl (dc K hd)) k
theorem ald1 (K : Cx p l e R s m meth c Z a0 W own nm bytes ml rt) (X : On p l e R s m args below meth c D Z n0 T A cells slots) {a : Nat} {j : Int32} {v : Value} (hg : h_aget A 1 a j = some v) (hd : decode bytes pc = .ok (.caload, 1))
    {pc' : Nat} (hp : pc + 1 = pc') (k : Go p e below (T.setTop (mkF m pc'  Ls (lf n0 v :: st))) G) : Go p e below (T.setTop (mkF m pc Ls (.int j :: .ref (n0 + a) :: st))) G := by
  subst hp
  obtain ⟨locs, X, N, RA⟩ := X
  obtain ⟨cl, h1, h2, h3⟩ := RA.at (by decide) hg
  exact go (X.caload K.1 h1.1 (State.isArrayOf_alike K.2.1.alike h1.2.1) h1.2.2 h2 h3 (g := mkF m pc Ls (.int j :: .ref (n0 + a) :: st)) rfl rfl (dc K hd)) k
theorem ald2 (K : Cx p l e R s m meth c Z a0 W own nm bytes ml rt) (X : On p l e R s m args below meth c D Z n0 T A cells slots) {a : Nat} {j : Int32} {v : Value} (hg : h_aget A 2 a j = some v) (hd : decode bytes pc = .ok (.baload, 1))
    {pc' : Nat} (hp : pc + 1 = pc') (k : Go p e below (T.setTop (mkF m pc'  Ls (lf n0 v :: st))) G) : Go p e below (T.setTop (mkF m pc Ls (.int j :: .ref (n0 + a) :: st))) G := by
  subst hp
  obtain ⟨locs, X, N, RA⟩ := X
  obtain ⟨cl, h1, h2, h3⟩ := RA.at (by decide) hg
  exact go (X.baloadBytes K.1 h1.1 (State.isArrayOf_alike K.2.1.alike h1.2.1) h1.2.2 h2 h3 (g := mkF m pc Ls (.int j :: .ref (n0 + a) :: st)) rfl rfl (dc K hd)) k
theorem ald3 (K : Cx p l e R s m meth c Z a0 W own nm bytes ml rt) (X : On p l e R s m args below meth c D Z n0 T A cells slots) {a : Nat} {j : Int32} {v : Value} (hg : h_aget A 3 a j = some v) (hd : decode bytes pc = .ok (.laload, 1))
    {pc' : Nat} (hp : pc + 1 = pc') (k : Go p e below (T.setTop (mkF m pc'  Ls (lf n0 v :: st))) G) : Go p e below (T.setTop (mkF m pc Ls (.int j :: .ref (n0 + a) :: st))) G := by
  subst hp
  obtain ⟨locs, X, N, RA⟩ := X
  obtain ⟨cl, h1, h2, h3⟩ := RA.at (by decide) hg
  exact go (X.laload K.1 h1.1 (State.isArrayOf_alike K.2.1.alike h1.2.1) h1.2.2 h2 h3 (g := mkF m pc Ls (.int j :: .ref (n0 + a) :: st)) rfl rfl (dc K hd)) k
theorem ald4 (K : Cx p l e R s m meth c Z a0 W own nm bytes ml rt) (X : On p l e R s m args below meth c D Z n0 T A cells slots) {a : Nat} {j : Int32} {v : Value} (hg : h_aget A 4 a j = some v) (hd : decode bytes pc = .ok (.baload, 1))
    {pc' : Nat} (hp : pc + 1 = pc') (k : Go p e below (T.setTop (mkF m pc'  Ls (lf n0 v :: st))) G) : Go p e below (T.setTop (mkF m pc Ls (.int j :: .ref (n0 + a) :: st))) G := by
  subst hp
  obtain ⟨locs, X, N, RA⟩ := X
  obtain ⟨cl, h1, h2, h3⟩ := RA.at (by decide) hg
  exact go (X.baloadBooleans K.1 h1.1 (State.isArrayOf_alike K.2.1.alike h1.2.1) h1.2.2 h2 h3 (g := mkF m pc Ls (.int j :: .ref (n0 + a) :: st)) rfl rfl (dc K hd)) k
theorem ld0 (K : Cx p l e R s m meth c Z a0 W own nm bytes ml rt) (X : On p l e R s m args below meth c D Z n0 T A cells slots) {a : Nat} {j : Int32} {v : Int32} (hg : asI (h_aget A 0 a j) = some v) (hd : decode bytes pc = .ok (.iaload, 1))
    {pc' : Nat} (hp : pc + 1 = pc') (k : Go p e below (T.setTop (mkF m pc' Ls (.int v :: st))) G) : Go p e below (T.setTop (mkF m pc Ls (.int j :: .ref (n0 + a) :: st))) G := ald0 K X (asI_s hg) hd hp k
theorem ld1 (K : Cx p l e R s m meth c Z a0 W own nm bytes ml rt) (X : On p l e R s m args below meth c D Z n0 T A cells slots) {a : Nat} {j : Int32} {v : Int32} (hg : asI (h_aget A 1 a j) = some v) (hd : decode bytes pc = .ok (.caload, 1))
    {pc' : Nat} (hp : pc + 1 = pc') (k : Go p e below (T.setTop (mkF m pc' Ls (.int v :: st))) G) : Go p e below (T.setTop (mkF m pc Ls (.int j :: .ref (n0 + a) :: st))) G := ald1 K X (asI_s hg) hd hp k
theorem ld2 (K : Cx p l e R s m meth c Z a0 W own nm bytes ml rt) (X : On p l e R s m args below meth c D Z n0 T A cells slots) {a : Nat} {j : Int32} {v : Int32} (hg : asI (h_aget A 2 a j) = some v) (hd : decode bytes pc = .ok (.baload, 1))
    {pc' : Nat} (hp : pc + 1 = pc') (k : Go p e below (T.setTop (mkF m pc' Ls (.int v :: st))) G) : Go p e below (T.setTop (mkF m pc Ls (.int j :: .ref (n0 + a) :: st))) G := ald2 K X (asI_s hg) hd hp k
theorem ld3 (K : Cx p l e R s m meth c Z a0 W own nm bytes ml rt) (X : On p l e R s m args below meth c D Z n0 T A cells slots) {a : Nat} {j : Int32} {v : Int64} (hg : asJ (h_aget A 3 a j) = some v) (hd : decode bytes pc = .ok (.laload, 1))
    {pc' : Nat} (hp : pc + 1 = pc') (k : Go p e below (T.setTop (mkF m pc' Ls (.long v :: st))) G) : Go p e below (T.setTop (mkF m pc Ls (.int j :: .ref (n0 + a) :: st))) G := ald3 K X (asJ_s hg) hd hp k
theorem ld4 (K : Cx p l e R s m meth c Z a0 W own nm bytes ml rt) (X : On p l e R s m args below meth c D Z n0 T A cells slots) {a : Nat} {j : Int32} {v : Int32} (hg : asI (h_aget A 4 a j) = some v) (hd : decode bytes pc = .ok (.baload, 1))
    {pc' : Nat} (hp : pc + 1 = pc') (k : Go p e below (T.setTop (mkF m pc' Ls (.int v :: st))) G) : Go p e below (T.setTop (mkF m pc Ls (.int j :: .ref (n0 + a) :: st))) G := ald4 K X (asI_s hg) hd hp k
theorem ast0 (K : Cx p l e R s m meth c Z a0 W own nm bytes ml rt) (X : On p l e R s m args below meth c D Z n0 T A cells slots) {a : Nat} {j x : Int32} (hp : h_aset A 0 a j (.int x) = some A') (hd : decode bytes pc = .ok (.iastore, 1))
    {pc' : Nat} (hp : pc + 1 = pc') (k : ∀ T', On p l e R s m args below meth c D Z n0 T' A' cells slots → Go p e below (T'.setTop (mkF m pc'  Ls st)) G) : Go p e below (T.setTop (mkF m pc Ls (.int x :: .int j :: .ref (n0 + a) :: st))) G := by
  subst hp
  obtain ⟨locs, X, N, RA⟩ := X
  obtain ⟨cl, h1, h2⟩ := RA.into (by decide) hp
  obtain ⟨T', h', X', e', W', stp⟩ := stI X K.1 K.2.1 rfl h1 h2 (g := mkF m pc Ls (.int x :: .int j :: .ref (n0 + a) :: st)) rfl rfl (dc K hd)
  exact go stp (k T' ⟨_, X', Fr.snoc X' N (Nat.le_add_right _ _), by rw [e']; exact RA.wrA (by decide) hp rfl W'⟩)
theorem ast1 (K : Cx p l e R s m meth c Z a0 W own nm bytes ml rt) (X : On p l e R s m args below meth c D Z n0 T A cells slots) {a : Nat} {j x : Int32} (hp : h_aset A 1 a j (.int (nar .char x)) = some A') (hd : decode bytes pc = .ok (.castore, 1))
    {pc' : Nat} (hp : pc + 1 = pc') (k : ∀ T', On p l e R s m args below meth c D Z n0 T' A' cells slots → Go p e below (T'.setTop (mkF m pc'  Ls st)) G) : Go p e below (T.setTop (mkF m pc Ls (.int x :: .int j :: .ref (n0 + a) :: st))) G := by
  subst hp
  obtain ⟨locs, X, N, RA⟩ := X
  obtain ⟨cl, h1, h2⟩ := RA.into (by decide) hp
  obtain ⟨T', h', X', e', W', stp⟩ := stC X K.1 K.2.1 rfl h1 h2 (g := mkF m pc Ls (.int x :: .int j :: .ref (n0 + a) :: st)) rfl rfl (dc K hd)
  exact go stp (k T' ⟨_, X', Fr.snoc X' N (Nat.le_add_right _ _), by rw [e']; exact RA.wrA (by decide) hp (fits_nar_char _) W'⟩)
theorem ast2 (K : Cx p l e R s m meth c Z a0 W own nm bytes ml rt) (X : On p l e R s m args below meth c D Z n0 T A cells slots) {a : Nat} {j x : Int32} (hp : h_aset A 2 a j (.int (nar .byte x)) = some A') (hd : decode bytes pc = .ok (.bastore, 1))
    {pc' : Nat} (hp : pc + 1 = pc') (k : ∀ T', On p l e R s m args below meth c D Z n0 T' A' cells slots → Go p e below (T'.setTop (mkF m pc'  Ls st)) G) : Go p e below (T.setTop (mkF m pc Ls (.int x :: .int j :: .ref (n0 + a) :: st))) G := by
  subst hp
  obtain ⟨locs, X, N, RA⟩ := X
  obtain ⟨cl, h1, h2⟩ := RA.into (by decide) hp
  obtain ⟨T', h', X', e', W', stp⟩ := stB X K.1 K.2.1 rfl h1 h2 (g := mkF m pc Ls (.int x :: .int j :: .ref (n0 + a) :: st)) rfl rfl (dc K hd)
  exact go stp (k T' ⟨_, X', Fr.snoc X' N (Nat.le_add_right _ _), by rw [e']; exact RA.wrA (by decide) hp (fits_nar_byte _) W'⟩)
theorem ast3 (K : Cx p l e R s m meth c Z a0 W own nm bytes ml rt) (X : On p l e R s m args below meth c D Z n0 T A cells slots) {a : Nat} {j : Int32} {x : Int64} (hp : h_aset A 3 a j (.long x) = some A') (hd : decode bytes pc = .ok (.lastore, 1))
    {pc' : Nat} (hp : pc + 1 = pc') (k : ∀ T', On p l e R s m args below meth c D Z n0 T' A' cells slots → Go p e below (T'.setTop (mkF m pc'  Ls st)) G) : Go p e below (T.setTop (mkF m pc Ls (.long x :: .int j :: .ref (n0 + a) :: st))) G := by
  subst hp
  obtain ⟨locs, X, N, RA⟩ := X
  obtain ⟨cl, h1, h2⟩ := RA.into (by decide) hp
  obtain ⟨T', h', X', e', W', stp⟩ := stJ X K.1 K.2.1 rfl h1 h2 (g := mkF m pc Ls (.long x :: .int j :: .ref (n0 + a) :: st)) rfl rfl (dc K hd)
  exact go stp (k T' ⟨_, X', Fr.snoc X' N (Nat.le_add_right _ _), by rw [e']; exact RA.wrA (by decide) hp rfl W'⟩)
theorem ast4 (K : Cx p l e R s m meth c Z a0 W own nm bytes ml rt) (X : On p l e R s m args below meth c D Z n0 T A cells slots) {a : Nat} {j x : Int32} (hp : h_aset A 4 a j (.int (nar .boolean x)) = some A') (hd : decode bytes pc = .ok (.bastore, 1))
    {pc' : Nat} (hp : pc + 1 = pc') (k : ∀ T', On p l e R s m args below meth c D Z n0 T' A' cells slots → Go p e below (T'.setTop (mkF m pc'  Ls st)) G) : Go p e below (T.setTop (mkF m pc Ls (.int x :: .int j :: .ref (n0 + a) :: st))) G := by
  subst hp
  obtain ⟨locs, X, N, RA⟩ := X
  obtain ⟨cl, h1, h2⟩ := RA.into (by decide) hp
  obtain ⟨T', h', X', e', W', stp⟩ := stZ X K.1 K.2.1 rfl h1 h2 (g := mkF m pc Ls (.int x :: .int j :: .ref (n0 + a) :: st)) rfl rfl (dc K hd)
  exact go stp (k T' ⟨_, X', Fr.snoc X' N (Nat.le_add_right _ _), by rw [e']; exact RA.wrA (by decide) hp (fits_nar_bool _) W'⟩)
/-! calls -/
theorem obj (K : Cx p l e R s m meth c Z a0 W own nm bytes ml rt) (X : On p l e R s m args below meth c D Z n0 T A cells slots) {i1 i2 i3 idx w : Nat} {a : Addr} (w1 : W[i1]? = some (.methodLink own idx Lib.objectInit)) (w2 : W[i2]? = some (.instanceMethod Lib.objectInit)) (w3 : W[i3]? = some (.code Lib.objectInit ⟨#[0xb1]⟩ 1 none))
    (hd : decode bytes pc = .ok (.invokespecial idx, 3)) (hz : Ls.size = ml) (hf : 1 ≤ R.frames) (hw : (st.map fun v => v.category).sum ≤ w) (hl : w + 12 ≤ R.locals)
    {pc' : Nat} (hp : pc + 3 = pc') (k : ∀ T', On p l e R s m args below meth c D Z n0 T' A cells slots → Go p e below (T'.setTop (mkF m pc'  Ls st)) G) : Go p e below (T.setTop (mkF m pc Ls (.ref a :: st))) G := by
  subst hp
  obtain ⟨locs, X, N, RA⟩ := X
  obtain ⟨T', X', e', stp⟩ := initO X K.1 K.2.1 K.2.2.1 (wd K w1) (wd K w2) (wd K w3) rfl (g := mkF m pc Ls (.ref a :: st)) rfl (hz.trans K.2.2.2.2.1.symm) rfl (dc K hd) hf (W := w) (by simpa [JFrame.monitorRoom] using hw) hl
  exact go stp (k T' ⟨locs, X', N, by rw [e']; exact RA⟩)
theorem calls (K : Cx p l e R s m meth c Z a0 W own nm bytes ml rt) (X : On p l e R s m args below meth c D Z n0 T A cells slots) {i1 i2 i3 i4 idx w : Nat} {y : MethodName} {by' : ByteArray} {ml' : Nat} {rt' : Option FieldType} {rm : Room} {as : List Value} {r : Option Value} {S : List Value} {ps : List FieldType}
    (w1 : W[i1]? = some (.methodLink own idx y)) (w2 : W[i2]? = some (.static y)) (w3 : W[i3]? = some (.initialized y.cls)) (w4 : W[i4]? = some (.code y by' ml' rt')) (hy : y.cls ≠ "java/lang/invoke/MethodHandle" ∧ y.cls ≠ "java/lang/invoke/VarHandle")
    (M : Met l D Z n0 y by' ml' rt' rm as A r A') (hpd : parseMethodDescriptor y.desc = some ⟨ps, rt'⟩) (hlen : as.length = ps.length) (hd : decode bytes pc = .ok (.invokestatic idx, 3)) (hz : Ls.size = ml) (hS : S = as.reverse ++ st)
    (hf : rm.frames + 1 ≤ R.frames) (hw : (st.map fun v => v.category).sum ≤ w) (hl : w + (ml' + 11) + rm.locals ≤ R.locals) (hc : cells + rm.cells ≤ R.cells) (hs : slots + rm.slots ≤ R.slots)
    {pc' kc ks : Nat} {S' : List Value} (ec : cells + rm.cells = kc) (es : slots + rm.slots = ks) (hS' : r.toList ++ st = S') (hp : pc + 3 = pc') (k : ∀ T', On p l e R s m args below meth c D Z n0 T' A' kc ks → Go p e below (T'.setTop (mkF m pc' Ls S')) G) : Go p e below (T.setTop (mkF m pc Ls S)) G := by
  subst hp ec es hS'
  obtain ⟨locs, X, N, RA⟩ := X
  obtain ⟨v, vm, ⟨T', L', k', n'⟩, -, X', ⟨Lc, hQ, q1, q2, q3⟩, stp⟩ := Jvm.LawKit.callS X K.1 K.2.2.1 (mvT K.2.1 (wd K w1)) (mvT K.2.1 (wd K w2)) (mvT K.2.1 (wd K w3)) (mvT K.2.1 (wd K w4)) hy
    (backOf (W := w) (M [] T.heap RA) K.2.1 (wd K w4) (wd K w3) hf hl) (g := mkF m pc Ls S) rfl (hz.trans K.2.2.2.2.1.symm) (argsL := as) (rest := st) (lenOf hpd hlen) hS (by simpa [JFrame.monitorRoom] using hw) (dc K hd) (fun _ _ => ⟨rfl, rfl, hc, hs⟩)
  dsimp only [Pt.U, Pt.locs, Pt.cells, Pt.slots] at X' q1 q2 q3 hQ stp
  subst q1 q2 q3
  obtain ⟨rfl, N', RA'⟩ := hQ
  exact go stp (k T' ⟨_, X', Fr.app N N', RA'⟩)
theorem calli (K : Cx p l e R s m meth c Z a0 W own nm bytes ml rt) (X : On p l e R s m args below meth c D Z n0 T A cells slots) {i1 i2 i3 i4 idx w : Nat} {y : MethodName} {by' : ByteArray} {ml' : Nat} {rm : Room} {a : Addr} {as : List Value} {S : List Value} {ps : List FieldType}
    (w1 : W[i1]? = some (.methodLink own idx y)) (w2 : W[i2]? = some (.instanceMethod y)) (w3 : W[i3]? = some (.initialized y.cls)) (w4 : W[i4]? = some (.code y by' ml' none)) (hy1 : y.name = "<init>") (hy : y.cls ≠ "java/lang/invoke/MethodHandle" ∧ y.cls ≠ "java/lang/invoke/VarHandle")
    (M : Met l D Z n0 y by' ml' none rm (.ref a :: as) A none A') (hpd : parseMethodDescriptor y.desc = some ⟨ps, none⟩) (hlen : as.length = ps.length) (hd : decode bytes pc = .ok (.invokespecial idx, 3)) (hz : Ls.size = ml) (hS : S = as.reverse ++ .ref a :: st)
    (hf : rm.frames + 1 ≤ R.frames) (hw : (st.map fun v => v.category).sum ≤ w) (hl : w + (ml' + 11) + rm.locals ≤ R.locals) (hc : cells + rm.cells ≤ R.cells) (hs : slots + rm.slots ≤ R.slots)
    {pc' kc ks : Nat} (ec : cells + rm.cells = kc) (es : slots + rm.slots = ks) (hp : pc + 3 = pc') (k : ∀ T', On p l e R s m args below meth c D Z n0 T' A' kc ks → Go p e below (T'.setTop (mkF m pc'  Ls st)) G) : Go p e below (T.setTop (mkF m pc Ls S)) G := by
  subst hp ec es
  obtain ⟨locs, X, N, RA⟩ := X
  obtain ⟨v, vm, ⟨T', L', k', n'⟩, -, X', ⟨Lc, hQ, q1, q2, q3⟩, stp⟩ := X.specialBack K.1 hy1 K.2.2.1 (mvT K.2.1 (wd K w1)) (mvT K.2.1 (wd K w2)) (mvT K.2.1 (wd K w4)) hy
    (backOf (W := w) (M [] T.heap RA) K.2.1 (wd K w4) (wd K w3) hf hl) (g := mkF m pc Ls S) rfl (hz.trans K.2.2.2.2.1.symm) (Steps.refl _) (a := a) (argsL := as) (rest := st) (lenOf hpd hlen) hS (by simpa [JFrame.monitorRoom] using hw) (dc K hd) (fun _ _ => ⟨rfl, rfl, hc, hs⟩)
  dsimp only [Pt.U, Pt.locs, Pt.cells, Pt.slots] at X' q1 q2 q3 hQ stp
  subst q1 q2 q3
  obtain ⟨rfl, N', RA'⟩ := hQ
  exact go (fun _ q => stp.trans q) (k T' ⟨_, X', Fr.app N N', RA'⟩)
theorem callv (K : Cx p l e R s m meth c Z a0 W own nm bytes ml rt) (X : On p l e R s m args below meth c D Z n0 T A cells slots) {i1 i2 i3 i4 i5 i6 idx w t a : Nat} {u : Unit} {y : MethodName} {by' : ByteArray} {ml' : Nat} {rt' : Option FieldType} {rm : Room} {as : List Value} {r : Option Value} {S : List Value} {ps : List FieldType}
    (w1 : W[i1]? = some (.methodLink own idx y)) (w2 : W[i2]? = some (.declares y)) (w5 : W[i5]? = some (.selects (D t).1 y y)) (w6 : W[i6]? = some (.instanceMethod y)) (w3 : W[i3]? = some (.initialized y.cls)) (w4 : W[i4]? = some (.code y by' ml' rt')) (hy : y.cls ≠ "java/lang/invoke/MethodHandle" ∧ y.cls ≠ "java/lang/invoke/VarHandle")
    (ht : 10 ≤ t) (hA : h_isA A t a = some u) (M : Met l D Z n0 y by' ml' rt' rm (.ref (n0 + a) :: as) A r A') (hpd : parseMethodDescriptor y.desc = some ⟨ps, rt'⟩) (hlen : as.length = ps.length) (hd : decode bytes pc = .ok (.invokevirtual idx, 3)) (hz : Ls.size = ml) (hS : S = as.reverse ++ .ref (n0 + a) :: st)
    (hf : rm.frames + 1 ≤ R.frames) (hw : (st.map fun v => v.category).sum ≤ w) (hl : w + (ml' + 11) + rm.locals ≤ R.locals) (hc : cells + rm.cells ≤ R.cells) (hs : slots + rm.slots ≤ R.slots)
    {pc' kc ks : Nat} {S' : List Value} (ec : cells + rm.cells = kc) (es : slots + rm.slots = ks) (hS' : r.toList ++ st = S') (hp : pc + 3 = pc') (k : ∀ T', On p l e R s m args below meth c D Z n0 T' A' kc ks → Go p e below (T'.setTop (mkF m pc' Ls S')) G) : Go p e below (T.setTop (mkF m pc Ls S)) G := by
  subst hp ec es hS'
  obtain ⟨locs, X, N, RA⟩ := X
  obtain ⟨vs, hA⟩ := isA_s hA
  obtain ⟨cq, kq, q1, q2, q3⟩ := isOf K.2.1 rfl (RA.exa ht hA)
  obtain ⟨v, vm, ⟨T', L', k', n'⟩, -, X', ⟨Lc, hQ, q1, q2, q3⟩, stp⟩ := X.virtualBack K.1 (y := y) (z := y) K.2.2.1 (mvT K.2.1 (wd K w1)) (mvT K.2.1 (wd K w2)) (notFace_of_selects (args := #[]) (mvT K.2.1 (wd K w5))) (mvT K.2.1 (wd K w5)) (mvT K.2.1 (wd K w6)) hy
    (backOf (W := w) (M [] T.heap RA) K.2.1 (wd K w4) (wd K w3) hf hl) q1 q3 (g := mkF m pc Ls S) rfl (hz.trans K.2.2.2.2.1.symm) (Steps.refl _) (argsL := as) (rest := st) (lenOf hpd hlen) hS (by simpa [JFrame.monitorRoom] using hw) (dc K hd) (fun _ _ => ⟨rfl, rfl, hc, hs⟩)
  dsimp only [Pt.U, Pt.locs, Pt.cells, Pt.slots] at X' q1 q2 q3 hQ stp
  subst q1 q2 q3
  obtain ⟨rfl, N', RA'⟩ := hQ
  exact go (fun _ q => stp.trans q) (k T' ⟨_, X', Fr.app N N', RA'⟩)
theorem callp (K : Cx p l e R s m meth c Z a0 W own nm bytes ml rt) (X : On p l e R s m args below meth c D Z n0 T A cells slots) {i1 i2 i3 i4 i5 i6 idx w t a kk : Nat} {u : Unit} {y : MethodName} {by' : ByteArray} {ml' : Nat} {rt' : Option FieldType} {rm : Room} {as : List Value} {r : Option Value} {S : List Value} {ps : List FieldType}
    (w1 : W[i1]? = some (.methodLink own idx y)) (w2 : W[i2]? = some (.privateMethod y)) (w5 : W[i5]? = some (.instantiable y.cls kk)) (w6 : W[i6]? = some (.instanceMethod y)) (w3 : W[i3]? = some (.initialized y.cls)) (w4 : W[i4]? = some (.code y by' ml' rt')) (hy : y.cls ≠ "java/lang/invoke/MethodHandle" ∧ y.cls ≠ "java/lang/invoke/VarHandle")
    (ht : 10 ≤ t) (hA : h_isA A t a = some u) (M : Met l D Z n0 y by' ml' rt' rm (.ref (n0 + a) :: as) A r A') (hpd : parseMethodDescriptor y.desc = some ⟨ps, rt'⟩) (hlen : as.length = ps.length) (hd : decode bytes pc = .ok (.invokevirtual idx, 3)) (hz : Ls.size = ml) (hS : S = as.reverse ++ .ref (n0 + a) :: st)
    (hf : rm.frames + 1 ≤ R.frames) (hw : (st.map fun v => v.category).sum ≤ w) (hl : w + (ml' + 11) + rm.locals ≤ R.locals) (hc : cells + rm.cells ≤ R.cells) (hs : slots + rm.slots ≤ R.slots)
    {pc' kc ks : Nat} {S' : List Value} (ec : cells + rm.cells = kc) (es : slots + rm.slots = ks) (hS' : r.toList ++ st = S') (hp : pc + 3 = pc') (k : ∀ T', On p l e R s m args below meth c D Z n0 T' A' kc ks → Go p e below (T'.setTop (mkF m pc' Ls S')) G) : Go p e below (T.setTop (mkF m pc Ls S)) G := by
  subst hp ec es hS'
  obtain ⟨locs, X, N, RA⟩ := X
  obtain ⟨vs, hA⟩ := isA_s hA
  obtain ⟨cq, q1, q2⟩ := (RA.exa ht hA).cell
  have wi : (Jvm.Cond.instantiable y.cls kk).before #[] s = true := mvT K.2.1 (wd K w5)
  obtain ⟨c0, k0, i1, i2, i3, i4, -⟩ := Cond.instantiable_spec wi
  have hni : k0.isInterface = false := (Bool.or_eq_false_iff.mp i4).1
  have hpr : s.PrivateAt y := Cond.privateMethod_at (mvP K.2.1 (wd K w2) (args := #[]))
  have hin : (Jvm.Cond.instanceMethod y).before args s = true := mvT K.2.1 (wd K w6)
  obtain ⟨v, vm, ⟨T', L', k', n'⟩, -, X', ⟨Lc, hQ, q1, q2, q3⟩, stp⟩ := X.privateBack K.1 (y := y) K.2.2.1 (mvT K.2.1 (wd K w1)) hin (selects_self_of_private i1 i2 hni hpr hin hy) hpr (mvT K.2.1 (wd K w4)) hy
    (backOf (W := w) (M [] T.heap RA) K.2.1 (wd K w4) (wd K w3) hf hl) (g := mkF m pc Ls S) rfl (hz.trans K.2.2.2.2.1.symm) (Steps.refl _) (a := n0 + a) q1 q2 (argsL := as) (rest := st) (lenOf hpd hlen) hS (by simpa [JFrame.monitorRoom] using hw) (dc K hd) (fun _ _ => ⟨rfl, rfl, hc, hs⟩)
  dsimp only [Pt.U, Pt.locs, Pt.cells, Pt.slots] at X' q1 q2 q3 hQ stp
  subst q1 q2 q3
  obtain ⟨rfl, N', RA'⟩ := hQ
  exact go (fun _ q => stp.trans q) (k T' ⟨_, X', Fr.app N N', RA'⟩)
/-! a body by its blocks -/
theorem met {y : MethodName} {as : List Value} {r : Option Value} {L0 : Array Slot} (hp : plainFor y = true) (hw : ∀ d ∈ W, d.before a0 Z = true) (hn : y.cls = own) (hnn : y.name = nm) (hef : ∀ m, entryFrame m as.toArray ml = mkF m 0 L0 [])
    (hb : ∀ (p : Program) (e : Env) (s : State) (m : MethodId) (below : List Frame) (meth : Method) (c : Code) (T : State), Cx p l e R s m meth c Z a0 W own nm bytes ml rt → On p l e R s m as.toArray below meth c D Z n0 T A 0 0 → Go p e below (T.setTop (mkF m 0 L0 [])) (Fini D Z n0 s R r A')) :
    Met l D Z n0 y bytes ml rt R as A r A' := by
  intro ws h0 RA
  refine MetFree.of_bodySF hp hisR ?_
  intro p e s m args below meth c s₁ Bd hml0 hP hK
  obtain ⟨rfl, hZ, hh⟩ := hP
  have hown : s.vm.findClass own = some m.cls := hn ▸ findClass_of_methodNamed Bd.named
  have hnm := (name_of_methodNamed Bd.named Bd.method).1
  have X0 : Stand p l e R s m as.toArray below meth c s₁ [] 0 0 := Stand.of_body Bd
  have e0 : s₁.heap = h0 := by rw [← hh, Bd.state]; rfl
  have := hb p e s m below meth c s₁ ⟨Bd.exec, hZ, hown, Bd.bytes, hml0, Bd.returns, Bd.notSynchronized, hnm.trans hnn, hw⟩ ⟨[], X0, Fr.nil n0, by rw [e0]; exact RA⟩
  obtain ⟨t, o, h1, h2, h3, h4⟩ := this
  exact ⟨t, o, castTop (hef m) h1, h2, h3, h4⟩
end Walk
end Jvm.OwnKit
namespace Jvm.OwnKit
open Sem ClassFile Op Lib Jvm.Stand Jvm.Free Jvm.LawKit Jvm.RoadKit
section Instr
variable {p : Program} {l : Launch} {e : Env} {R : Room} {s : State} {m : MethodId} {args : Array Value} {below : List Frame} {meth : Method} {c : Code} {Z : State} {a0 : Array Value} {W : List Jvm.Cond} {own nm : String} {bytes : ByteArray} {ml : Nat} {rt : Option FieldType} {D : Dic} {n0 : Nat} {T : State} {A A' : AH} {cells slots : Nat} {G : Outcome → State → Prop} {pc : Nat} {Ls : Array Slot} {st : List Value}
theorem i_iadd (K : Cx p l e R s m meth c Z a0 W own nm bytes ml rt) (X : On p l e R s m args below meth c D Z n0 T A cells slots) {x y : Int32} {pc' : Nat} (hd : decode bytes pc = .ok (.iadd, 1)) (hp : pc + 1 = pc')
    (k : Go p e below (T.setTop (mkF m pc' Ls (.int (x + y) :: st))) G) : Go p e below (T.setTop (mkF m pc Ls (.int y :: .int x :: st))) G := by
  subst hp; exact go (fun _ => XS.iadd X.here K.1 (g := mkF m pc Ls (.int y :: .int x :: st)) rfl (dc K hd) rfl) k
theorem i_isub (K : Cx p l e R s m meth c Z a0 W own nm bytes ml rt) (X : On p l e R s m args below meth c D Z n0 T A cells slots) {x y : Int32} {pc' : Nat} (hd : decode bytes pc = .ok (.isub, 1)) (hp : pc + 1 = pc')
    (k : Go p e below (T.setTop (mkF m pc' Ls (.int (x - y) :: st))) G) : Go p e below (T.setTop (mkF m pc Ls (.int y :: .int x :: st))) G := by
  subst hp; exact go (fun _ => XS.isub X.here K.1 (g := mkF m pc Ls (.int y :: .int x :: st)) rfl (dc K hd) rfl) k
theorem i_imul (K : Cx p l e R s m meth c Z a0 W own nm bytes ml rt) (X : On p l e R s m args below meth c D Z n0 T A cells slots) {x y : Int32} {pc' : Nat} (hd : decode bytes pc = .ok (.imul, 1)) (hp : pc + 1 = pc')
    (k : Go p e below (T.setTop (mkF m pc' Ls (.int (x * y) :: st))) G) : Go p e below (T.setTop (mkF m pc Ls (.int y :: .int x :: st))) G := by
  subst hp; exact go (fun _ => XS.imul X.here K.1 (g := mkF m pc Ls (.int y :: .int x :: st)) rfl (dc K hd) rfl) k
theorem i_iand (K : Cx p l e R s m meth c Z a0 W own nm bytes ml rt) (X : On p l e R s m args below meth c D Z n0 T A cells slots) {x y : Int32} {pc' : Nat} (hd : decode bytes pc = .ok (.iand, 1)) (hp : pc + 1 = pc')
    (k : Go p e below (T.setTop (mkF m pc' Ls (.int (x &&& y) :: st))) G) : Go p e below (T.setTop (mkF m pc Ls (.int y :: .int x :: st))) G := by
  subst hp; exact go (fun _ => XS.iand X.here K.1 (g := mkF m pc Ls (.int y :: .int x :: st)) rfl (dc K hd) rfl) k
theorem i_ior (K : Cx p l e R s m meth c Z a0 W own nm bytes ml rt) (X : On p l e R s m args below meth c D Z n0 T A cells slots) {x y : Int32} {pc' : Nat} (hd : decode bytes pc = .ok (.ior, 1)) (hp : pc + 1 = pc')
    (k : Go p e below (T.setTop (mkF m pc' Ls (.int (x ||| y) :: st))) G) : Go p e below (T.setTop (mkF m pc Ls (.int y :: .int x :: st))) G := by
  subst hp; exact go (fun _ => XS.ior X.here K.1 (g := mkF m pc Ls (.int y :: .int x :: st)) rfl (dc K hd) rfl) k
theorem i_ixor (K : Cx p l e R s m meth c Z a0 W own nm bytes ml rt) (X : On p l e R s m args below meth c D Z n0 T A cells slots) {x y : Int32} {pc' : Nat} (hd : decode bytes pc = .ok (.ixor, 1)) (hp : pc + 1 = pc')
    (k : Go p e below (T.setTop (mkF m pc' Ls (.int (x ^^^ y) :: st))) G) : Go p e below (T.setTop (mkF m pc Ls (.int y :: .int x :: st))) G := by
  subst hp; exact go (fun _ => XS.ixor X.here K.1 (g := mkF m pc Ls (.int y :: .int x :: st)) rfl (dc K hd) rfl) k
theorem i_ishl (K : Cx p l e R s m meth c Z a0 W own nm bytes ml rt) (X : On p l e R s m args below meth c D Z n0 T A cells slots) {x y : Int32} {pc' : Nat} (hd : decode bytes pc = .ok (.ishl, 1)) (hp : pc + 1 = pc')
    (k : Go p e below (T.setTop (mkF m pc' Ls (.int (x <<< (y &&& 31)) :: st))) G) : Go p e below (T.setTop (mkF m pc Ls (.int y :: .int x :: st))) G := by
  subst hp; exact go (fun _ => XS.ishl X.here K.1 (g := mkF m pc Ls (.int y :: .int x :: st)) rfl (dc K hd) rfl) k
theorem i_ishr (K : Cx p l e R s m meth c Z a0 W own nm bytes ml rt) (X : On p l e R s m args below meth c D Z n0 T A cells slots) {x y : Int32} {pc' : Nat} (hd : decode bytes pc = .ok (.ishr, 1)) (hp : pc + 1 = pc')
    (k : Go p e below (T.setTop (mkF m pc' Ls (.int (x >>> (y &&& 31)) :: st))) G) : Go p e below (T.setTop (mkF m pc Ls (.int y :: .int x :: st))) G := by
  subst hp; exact go (fun _ => XS.ishr X.here K.1 (g := mkF m pc Ls (.int y :: .int x :: st)) rfl (dc K hd) rfl) k
theorem i_iushr (K : Cx p l e R s m meth c Z a0 W own nm bytes ml rt) (X : On p l e R s m args below meth c D Z n0 T A cells slots) {x y : Int32} {pc' : Nat} (hd : decode bytes pc = .ok (.iushr, 1)) (hp : pc + 1 = pc')
    (k : Go p e below (T.setTop (mkF m pc' Ls (.int ((x.toUInt32 >>> (y &&& 31).toUInt32).toInt32) :: st))) G) : Go p e below (T.setTop (mkF m pc Ls (.int y :: .int x :: st))) G := by
  subst hp; exact go (fun _ => XS.iushr X.here K.1 (g := mkF m pc Ls (.int y :: .int x :: st)) rfl (dc K hd) rfl) k
theorem i_idiv (K : Cx p l e R s m meth c Z a0 W own nm bytes ml rt) (X : On p l e R s m args below meth c D Z n0 T A cells slots) {x y : Int32} {pc' : Nat} (hd : decode bytes pc = .ok (.idiv, 1)) (hp : pc + 1 = pc') (hy : y ≠ 0)
    (k : Go p e below (T.setTop (mkF m pc' Ls (.int (x / y) :: st))) G) : Go p e below (T.setTop (mkF m pc Ls (.int y :: .int x :: st))) G := by
  subst hp; exact go (fun _ => XS.idiv X.here K.1 (g := mkF m pc Ls (.int y :: .int x :: st)) rfl (dc K hd) rfl hy) k
theorem i_irem (K : Cx p l e R s m meth c Z a0 W own nm bytes ml rt) (X : On p l e R s m args below meth c D Z n0 T A cells slots) {x y : Int32} {pc' : Nat} (hd : decode bytes pc = .ok (.irem, 1)) (hp : pc + 1 = pc') (hy : y ≠ 0)
    (k : Go p e below (T.setTop (mkF m pc' Ls (.int (x % y) :: st))) G) : Go p e below (T.setTop (mkF m pc Ls (.int y :: .int x :: st))) G := by
  subst hp; rw [← irem_eq_mod] at k; exact go (fun _ => XS.irem X.here K.1 (g := mkF m pc Ls (.int y :: .int x :: st)) rfl (dc K hd) rfl hy) k
theorem i_ladd (K : Cx p l e R s m meth c Z a0 W own nm bytes ml rt) (X : On p l e R s m args below meth c D Z n0 T A cells slots) {x y : Int64} {pc' : Nat} (hd : decode bytes pc = .ok (.ladd, 1)) (hp : pc + 1 = pc')
    (k : Go p e below (T.setTop (mkF m pc' Ls (.long (x + y) :: st))) G) : Go p e below (T.setTop (mkF m pc Ls (.long y :: .long x :: st))) G := by
  subst hp; exact go (fun _ => XS.ladd X.here K.1 (g := mkF m pc Ls (.long y :: .long x :: st)) rfl (dc K hd) rfl) k
theorem i_lsub (K : Cx p l e R s m meth c Z a0 W own nm bytes ml rt) (X : On p l e R s m args below meth c D Z n0 T A cells slots) {x y : Int64} {pc' : Nat} (hd : decode bytes pc = .ok (.lsub, 1)) (hp : pc + 1 = pc')
    (k : Go p e below (T.setTop (mkF m pc' Ls (.long (x - y) :: st))) G) : Go p e below (T.setTop (mkF m pc Ls (.long y :: .long x :: st))) G := by
  subst hp; exact go (fun _ => XS.lsub X.here K.1 (g := mkF m pc Ls (.long y :: .long x :: st)) rfl (dc K hd) rfl) k
theorem i_lmul (K : Cx p l e R s m meth c Z a0 W own nm bytes ml rt) (X : On p l e R s m args below meth c D Z n0 T A cells slots) {x y : Int64} {pc' : Nat} (hd : decode bytes pc = .ok (.lmul, 1)) (hp : pc + 1 = pc')
    (k : Go p e below (T.setTop (mkF m pc' Ls (.long (x * y) :: st))) G) : Go p e below (T.setTop (mkF m pc Ls (.long y :: .long x :: st))) G := by
  subst hp; exact go (fun _ => XS.lmul X.here K.1 (g := mkF m pc Ls (.long y :: .long x :: st)) rfl (dc K hd) rfl) k
theorem i_land (K : Cx p l e R s m meth c Z a0 W own nm bytes ml rt) (X : On p l e R s m args below meth c D Z n0 T A cells slots) {x y : Int64} {pc' : Nat} (hd : decode bytes pc = .ok (.land, 1)) (hp : pc + 1 = pc')
    (k : Go p e below (T.setTop (mkF m pc' Ls (.long (x &&& y) :: st))) G) : Go p e below (T.setTop (mkF m pc Ls (.long y :: .long x :: st))) G := by
  subst hp; exact go (fun _ => XS.land X.here K.1 (g := mkF m pc Ls (.long y :: .long x :: st)) rfl (dc K hd) rfl) k
theorem i_lor (K : Cx p l e R s m meth c Z a0 W own nm bytes ml rt) (X : On p l e R s m args below meth c D Z n0 T A cells slots) {x y : Int64} {pc' : Nat} (hd : decode bytes pc = .ok (.lor, 1)) (hp : pc + 1 = pc')
    (k : Go p e below (T.setTop (mkF m pc' Ls (.long (x ||| y) :: st))) G) : Go p e below (T.setTop (mkF m pc Ls (.long y :: .long x :: st))) G := by
  subst hp; exact go (fun _ => XS.lor X.here K.1 (g := mkF m pc Ls (.long y :: .long x :: st)) rfl (dc K hd) rfl) k
theorem i_lxor (K : Cx p l e R s m meth c Z a0 W own nm bytes ml rt) (X : On p l e R s m args below meth c D Z n0 T A cells slots) {x y : Int64} {pc' : Nat} (hd : decode bytes pc = .ok (.lxor, 1)) (hp : pc + 1 = pc')
    (k : Go p e below (T.setTop (mkF m pc' Ls (.long (x ^^^ y) :: st))) G) : Go p e below (T.setTop (mkF m pc Ls (.long y :: .long x :: st))) G := by
  subst hp; exact go (fun _ => XS.lxor X.here K.1 (g := mkF m pc Ls (.long y :: .long x :: st)) rfl (dc K hd) rfl) k
theorem i_lshl (K : Cx p l e R s m meth c Z a0 W own nm bytes ml rt) (X : On p l e R s m args below meth c D Z n0 T A cells slots) {x : Int64} {y : Int32} {pc' : Nat} (hd : decode bytes pc = .ok (.lshl, 1)) (hp : pc + 1 = pc')
    (k : Go p e below (T.setTop (mkF m pc' Ls (.long (x <<< (y &&& 0x3f).toInt64) :: st))) G) : Go p e below (T.setTop (mkF m pc Ls (.int y :: .long x :: st))) G := by
  subst hp; exact go (fun _ => XS.lshl X.here K.1 (g := mkF m pc Ls (.int y :: .long x :: st)) rfl (dc K hd) rfl) k
theorem i_lshr (K : Cx p l e R s m meth c Z a0 W own nm bytes ml rt) (X : On p l e R s m args below meth c D Z n0 T A cells slots) {x : Int64} {y : Int32} {pc' : Nat} (hd : decode bytes pc = .ok (.lshr, 1)) (hp : pc + 1 = pc')
    (k : Go p e below (T.setTop (mkF m pc' Ls (.long (x >>> (y &&& 0x3f).toInt64) :: st))) G) : Go p e below (T.setTop (mkF m pc Ls (.int y :: .long x :: st))) G := by
  subst hp; exact go (fun _ => XS.lshr X.here K.1 (g := mkF m pc Ls (.int y :: .long x :: st)) rfl (dc K hd) rfl) k
theorem i_lushr (K : Cx p l e R s m meth c Z a0 W own nm bytes ml rt) (X : On p l e R s m args below meth c D Z n0 T A cells slots) {x : Int64} {y : Int32} {pc' : Nat} (hd : decode bytes pc = .ok (.lushr, 1)) (hp : pc + 1 = pc')
    (k : Go p e below (T.setTop (mkF m pc' Ls (.long ((x.toUInt64 >>> (y &&& 0x3f).toInt64.toUInt64).toInt64) :: st))) G) : Go p e below (T.setTop (mkF m pc Ls (.int y :: .long x :: st))) G := by
  subst hp; exact go (fun _ => XS.lushr X.here K.1 (g := mkF m pc Ls (.int y :: .long x :: st)) rfl (dc K hd) rfl) k
theorem i_ldiv (K : Cx p l e R s m meth c Z a0 W own nm bytes ml rt) (X : On p l e R s m args below meth c D Z n0 T A cells slots) {x y : Int64} {pc' : Nat} (hd : decode bytes pc = .ok (.ldiv, 1)) (hp : pc + 1 = pc') (hy : y ≠ 0)
    (k : Go p e below (T.setTop (mkF m pc' Ls (.long (x / y) :: st))) G) : Go p e below (T.setTop (mkF m pc Ls (.long y :: .long x :: st))) G := by
  subst hp; exact go (fun _ => XS.ldiv X.here K.1 (g := mkF m pc Ls (.long y :: .long x :: st)) rfl (dc K hd) rfl hy) k
theorem i_lrem (K : Cx p l e R s m meth c Z a0 W own nm bytes ml rt) (X : On p l e R s m args below meth c D Z n0 T A cells slots) {x y : Int64} {pc' : Nat} (hd : decode bytes pc = .ok (.lrem, 1)) (hp : pc + 1 = pc') (hy : y ≠ 0)
    (k : Go p e below (T.setTop (mkF m pc' Ls (.long (x - (x / y) * y) :: st))) G) : Go p e below (T.setTop (mkF m pc Ls (.long y :: .long x :: st))) G := by
  subst hp; exact go (fun _ => XS.lrem X.here K.1 (g := mkF m pc Ls (.long y :: .long x :: st)) rfl (dc K hd) rfl hy) k
theorem i_ineg (K : Cx p l e R s m meth c Z a0 W own nm bytes ml rt) (X : On p l e R s m args below meth c D Z n0 T A cells slots) {x : Int32} {pc' : Nat} (hd : decode bytes pc = .ok (.ineg, 1)) (hp : pc + 1 = pc')
    (k : Go p e below (T.setTop (mkF m pc' Ls (.int (-x) :: st))) G) : Go p e below (T.setTop (mkF m pc Ls (.int x :: st))) G := by
  subst hp; exact go (fun _ => XS.ineg X.here K.1 (g := mkF m pc Ls (.int x :: st)) rfl (dc K hd) rfl) k
theorem i_lneg (K : Cx p l e R s m meth c Z a0 W own nm bytes ml rt) (X : On p l e R s m args below meth c D Z n0 T A cells slots) {x : Int64} {pc' : Nat} (hd : decode bytes pc = .ok (.lneg, 1)) (hp : pc + 1 = pc')
    (k : Go p e below (T.setTop (mkF m pc' Ls (.long (-x) :: st))) G) : Go p e below (T.setTop (mkF m pc Ls (.long x :: st))) G := by
  subst hp; exact go (fun _ => XS.lneg X.here K.1 (g := mkF m pc Ls (.long x :: st)) rfl (dc K hd) rfl) k
theorem i_i2b (K : Cx p l e R s m meth c Z a0 W own nm bytes ml rt) (X : On p l e R s m args below meth c D Z n0 T A cells slots) {x : Int32} {pc' : Nat} (hd : decode bytes pc = .ok (.i2b, 1)) (hp : pc + 1 = pc')
    (k : Go p e below (T.setTop (mkF m pc' Ls (.int (x.toInt8.toInt32) :: st))) G) : Go p e below (T.setTop (mkF m pc Ls (.int x :: st))) G := by
  subst hp; exact go (fun _ => XS.i2b X.here K.1 (g := mkF m pc Ls (.int x :: st)) rfl (dc K hd) rfl) k
theorem i_i2c (K : Cx p l e R s m meth c Z a0 W own nm bytes ml rt) (X : On p l e R s m args below meth c D Z n0 T A cells slots) {x : Int32} {pc' : Nat} (hd : decode bytes pc = .ok (.i2c, 1)) (hp : pc + 1 = pc')
    (k : Go p e below (T.setTop (mkF m pc' Ls (.int (x.toUInt32.toUInt16.toUInt32.toInt32) :: st))) G) : Go p e below (T.setTop (mkF m pc Ls (.int x :: st))) G := by
  subst hp; exact go (fun _ => XS.i2c X.here K.1 (g := mkF m pc Ls (.int x :: st)) rfl (dc K hd) rfl) k
theorem i_i2s (K : Cx p l e R s m meth c Z a0 W own nm bytes ml rt) (X : On p l e R s m args below meth c D Z n0 T A cells slots) {x : Int32} {pc' : Nat} (hd : decode bytes pc = .ok (.i2s, 1)) (hp : pc + 1 = pc')
    (k : Go p e below (T.setTop (mkF m pc' Ls (.int (x.toInt16.toInt32) :: st))) G) : Go p e below (T.setTop (mkF m pc Ls (.int x :: st))) G := by
  subst hp; exact go (fun _ => XS.i2s X.here K.1 (g := mkF m pc Ls (.int x :: st)) rfl (dc K hd) rfl) k
theorem i_i2l (K : Cx p l e R s m meth c Z a0 W own nm bytes ml rt) (X : On p l e R s m args below meth c D Z n0 T A cells slots) {x : Int32} {pc' : Nat} (hd : decode bytes pc = .ok (.i2l, 1)) (hp : pc + 1 = pc')
    (k : Go p e below (T.setTop (mkF m pc' Ls (.long (x.toInt64) :: st))) G) : Go p e below (T.setTop (mkF m pc Ls (.int x :: st))) G := by
  subst hp; exact go (fun _ => XS.i2l X.here K.1 (g := mkF m pc Ls (.int x :: st)) rfl (dc K hd) rfl) k
theorem i_l2i (K : Cx p l e R s m meth c Z a0 W own nm bytes ml rt) (X : On p l e R s m args below meth c D Z n0 T A cells slots) {x : Int64} {pc' : Nat} (hd : decode bytes pc = .ok (.l2i, 1)) (hp : pc + 1 = pc')
    (k : Go p e below (T.setTop (mkF m pc' Ls (.int (x.toInt32) :: st))) G) : Go p e below (T.setTop (mkF m pc Ls (.long x :: st))) G := by
  subst hp; exact go (fun _ => XS.l2i X.here K.1 (g := mkF m pc Ls (.long x :: st)) rfl (dc K hd) rfl) k
theorem i_lcmp (K : Cx p l e R s m meth c Z a0 W own nm bytes ml rt) (X : On p l e R s m args below meth c D Z n0 T A cells slots) {x y : Int64} {pc' : Nat} (hd : decode bytes pc = .ok (.lcmp, 1)) (hp : pc + 1 = pc')
    (k : Go p e below (T.setTop (mkF m pc' Ls (.int (lcmpW x y) :: st))) G) : Go p e below (T.setTop (mkF m pc Ls (.long y :: .long x :: st))) G := by
  subst hp; exact go (fun _ => XS.lcmp X.here K.1 (g := mkF m pc Ls (.long y :: .long x :: st)) rfl (dc K hd) rfl) k
theorem i_pop (K : Cx p l e R s m meth c Z a0 W own nm bytes ml rt) (X : On p l e R s m args below meth c D Z n0 T A cells slots) {x : Value} {pc' : Nat} (hd : decode bytes pc = .ok (.pop, 1)) (hp : pc + 1 = pc') (h1 : x.category = 1)
    (k : Go p e below (T.setTop (mkF m pc' Ls (st))) G) : Go p e below (T.setTop (mkF m pc Ls (x :: st))) G := by
  subst hp; exact go (fun _ => XS.pop X.here K.1 (g := mkF m pc Ls (x :: st)) rfl (dc K hd) rfl h1) k
theorem i_dup (K : Cx p l e R s m meth c Z a0 W own nm bytes ml rt) (X : On p l e R s m args below meth c D Z n0 T A cells slots) {x : Value} {pc' : Nat} (hd : decode bytes pc = .ok (.dup, 1)) (hp : pc + 1 = pc') (h1 : x.category = 1)
    (k : Go p e below (T.setTop (mkF m pc' Ls (x :: x :: st))) G) : Go p e below (T.setTop (mkF m pc Ls (x :: st))) G := by
  subst hp; exact go (fun _ => XS.dup X.here K.1 (g := mkF m pc Ls (x :: st)) rfl (dc K hd) rfl h1) k
theorem i_dupX1 (K : Cx p l e R s m meth c Z a0 W own nm bytes ml rt) (X : On p l e R s m args below meth c D Z n0 T A cells slots) {x y : Value} {pc' : Nat} (hd : decode bytes pc = .ok (.dup_x1, 1)) (hp : pc + 1 = pc') (h1 : x.category = 1) (h2 : y.category = 1)
    (k : Go p e below (T.setTop (mkF m pc' Ls (x :: y :: x :: st))) G) : Go p e below (T.setTop (mkF m pc Ls (x :: y :: st))) G := by
  subst hp; exact go (fun _ => XS.dupX1 X.here K.1 (g := mkF m pc Ls (x :: y :: st)) rfl (dc K hd) rfl h1 h2) k
theorem i_swap (K : Cx p l e R s m meth c Z a0 W own nm bytes ml rt) (X : On p l e R s m args below meth c D Z n0 T A cells slots) {x y : Value} {pc' : Nat} (hd : decode bytes pc = .ok (.swap, 1)) (hp : pc + 1 = pc') (h1 : x.category = 1) (h2 : y.category = 1)
    (k : Go p e below (T.setTop (mkF m pc' Ls (y :: x :: st))) G) : Go p e below (T.setTop (mkF m pc Ls (x :: y :: st))) G := by
  subst hp; exact go (fun _ => XS.swap X.here K.1 (g := mkF m pc Ls (x :: y :: st)) rfl (dc K hd) rfl h1 h2) k
theorem i_iload (K : Cx p l e R s m meth c Z a0 W own nm bytes ml rt) (X : On p l e R s m args below meth c D Z n0 T A cells slots) {v : Int32} {i : Nat} {pc' : Nat} (hd : decode bytes pc = .ok (.iload i, 2)) (hp : pc + 2 = pc') (hl : Ls[i]? = some (.val (.int v)))
    (k : Go p e below (T.setTop (mkF m pc' Ls (.int v :: st))) G) : Go p e below (T.setTop (mkF m pc Ls (st))) G := by
  subst hp; exact go (fun _ => XS.iload X.here K.1 (g := mkF m pc Ls (st)) rfl (dc K hd) hl) k
theorem i_iloadN (K : Cx p l e R s m meth c Z a0 W own nm bytes ml rt) (X : On p l e R s m args below meth c D Z n0 T A cells slots) {v : Int32} {i : Fin 4} {pc' : Nat} (hd : decode bytes pc = .ok (.iload_n i, 1)) (hp : pc + 1 = pc') (hl : Ls[i.val]? = some (.val (.int v)))
    (k : Go p e below (T.setTop (mkF m pc' Ls (.int v :: st))) G) : Go p e below (T.setTop (mkF m pc Ls (st))) G := by
  subst hp; exact go (fun _ => XS.iloadN X.here K.1 (g := mkF m pc Ls (st)) rfl (dc K hd) hl) k
theorem i_lload (K : Cx p l e R s m meth c Z a0 W own nm bytes ml rt) (X : On p l e R s m args below meth c D Z n0 T A cells slots) {v : Int64} {i : Nat} {pc' : Nat} (hd : decode bytes pc = .ok (.lload i, 2)) (hp : pc + 2 = pc') (hl : Ls[i]? = some (.val (.long v)))
    (k : Go p e below (T.setTop (mkF m pc' Ls (.long v :: st))) G) : Go p e below (T.setTop (mkF m pc Ls (st))) G := by
  subst hp; exact go (fun _ => XS.lload X.here K.1 (g := mkF m pc Ls (st)) rfl (dc K hd) hl) k
theorem i_lloadN (K : Cx p l e R s m meth c Z a0 W own nm bytes ml rt) (X : On p l e R s m args below meth c D Z n0 T A cells slots) {v : Int64} {i : Fin 4} {pc' : Nat} (hd : decode bytes pc = .ok (.lload_n i, 1)) (hp : pc + 1 = pc') (hl : Ls[i.val]? = some (.val (.long v)))
    (k : Go p e below (T.setTop (mkF m pc' Ls (.long v :: st))) G) : Go p e below (T.setTop (mkF m pc Ls (st))) G := by
  subst hp; exact go (fun _ => XS.lloadN X.here K.1 (g := mkF m pc Ls (st)) rfl (dc K hd) hl) k
theorem i_aload (K : Cx p l e R s m meth c Z a0 W own nm bytes ml rt) (X : On p l e R s m args below meth c D Z n0 T A cells slots) {v : Value} {i : Nat} {pc' : Nat} (hd : decode bytes pc = .ok (.aload i, 2)) (hp : pc + 2 = pc') (hl : Ls[i]? = some (.val v)) (hv : v.isRef = true)
    (k : Go p e below (T.setTop (mkF m pc' Ls (v :: st))) G) : Go p e below (T.setTop (mkF m pc Ls (st))) G := by
  subst hp; exact go (fun _ => XS.aload X.here K.1 (g := mkF m pc Ls (st)) rfl (dc K hd) hl hv) k
theorem i_aloadN (K : Cx p l e R s m meth c Z a0 W own nm bytes ml rt) (X : On p l e R s m args below meth c D Z n0 T A cells slots) {v : Value} {i : Fin 4} {pc' : Nat} (hd : decode bytes pc = .ok (.aload_n i, 1)) (hp : pc + 1 = pc') (hl : Ls[i.val]? = some (.val v)) (hv : v.isRef = true)
    (k : Go p e below (T.setTop (mkF m pc' Ls (v :: st))) G) : Go p e below (T.setTop (mkF m pc Ls (st))) G := by
  subst hp; exact go (fun _ => XS.aloadN X.here K.1 (g := mkF m pc Ls (st)) rfl (dc K hd) hl hv) k
theorem i_istore (K : Cx p l e R s m meth c Z a0 W own nm bytes ml rt) (X : On p l e R s m args below meth c D Z n0 T A cells slots) {v : Int32} {i : Nat} {Ls' : Array Slot} {pc' : Nat} (hd : decode bytes pc = .ok (.istore i, 2)) (hp : pc + 2 = pc') (hl : storeLocals Ls i (.int v) = some Ls')
    (k : Go p e below (T.setTop (mkF m pc' Ls' (st))) G) : Go p e below (T.setTop (mkF m pc Ls (.int v :: st))) G := by
  subst hp; exact go (fun _ => XS.istore X.here K.1 (g := mkF m pc Ls (.int v :: st)) rfl (dc K hd) rfl hl) k
theorem i_istoreN (K : Cx p l e R s m meth c Z a0 W own nm bytes ml rt) (X : On p l e R s m args below meth c D Z n0 T A cells slots) {v : Int32} {i : Fin 4} {Ls' : Array Slot} {pc' : Nat} (hd : decode bytes pc = .ok (.istore_n i, 1)) (hp : pc + 1 = pc') (hl : storeLocals Ls i.val (.int v) = some Ls')
    (k : Go p e below (T.setTop (mkF m pc' Ls' (st))) G) : Go p e below (T.setTop (mkF m pc Ls (.int v :: st))) G := by
  subst hp; exact go (fun _ => XS.istoreN X.here K.1 (g := mkF m pc Ls (.int v :: st)) rfl (dc K hd) rfl hl) k
theorem i_lstore (K : Cx p l e R s m meth c Z a0 W own nm bytes ml rt) (X : On p l e R s m args below meth c D Z n0 T A cells slots) {v : Int64} {i : Nat} {Ls' : Array Slot} {pc' : Nat} (hd : decode bytes pc = .ok (.lstore i, 2)) (hp : pc + 2 = pc') (hl : storeLocals Ls i (.long v) = some Ls')
    (k : Go p e below (T.setTop (mkF m pc' Ls' (st))) G) : Go p e below (T.setTop (mkF m pc Ls (.long v :: st))) G := by
  subst hp; exact go (fun _ => XS.lstore X.here K.1 (g := mkF m pc Ls (.long v :: st)) rfl (dc K hd) rfl hl) k
theorem i_lstoreN (K : Cx p l e R s m meth c Z a0 W own nm bytes ml rt) (X : On p l e R s m args below meth c D Z n0 T A cells slots) {v : Int64} {i : Fin 4} {Ls' : Array Slot} {pc' : Nat} (hd : decode bytes pc = .ok (.lstore_n i, 1)) (hp : pc + 1 = pc') (hl : storeLocals Ls i.val (.long v) = some Ls')
    (k : Go p e below (T.setTop (mkF m pc' Ls' (st))) G) : Go p e below (T.setTop (mkF m pc Ls (.long v :: st))) G := by
  subst hp; exact go (fun _ => XS.lstoreN X.here K.1 (g := mkF m pc Ls (.long v :: st)) rfl (dc K hd) rfl hl) k
theorem i_astore (K : Cx p l e R s m meth c Z a0 W own nm bytes ml rt) (X : On p l e R s m args below meth c D Z n0 T A cells slots) {v : Value} {i : Nat} {Ls' : Array Slot} {pc' : Nat} (hd : decode bytes pc = .ok (.astore i, 2)) (hp : pc + 2 = pc') (hl : storeLocals Ls i v = some Ls') (hv : v.isRef = true)
    (k : Go p e below (T.setTop (mkF m pc' Ls' (st))) G) : Go p e below (T.setTop (mkF m pc Ls (v :: st))) G := by
  subst hp; exact go (fun _ => XS.astore X.here K.1 (g := mkF m pc Ls (v :: st)) rfl (dc K hd) rfl hv hl) k
theorem i_astoreN (K : Cx p l e R s m meth c Z a0 W own nm bytes ml rt) (X : On p l e R s m args below meth c D Z n0 T A cells slots) {v : Value} {i : Fin 4} {Ls' : Array Slot} {pc' : Nat} (hd : decode bytes pc = .ok (.astore_n i, 1)) (hp : pc + 1 = pc') (hl : storeLocals Ls i.val v = some Ls') (hv : v.isRef = true)
    (k : Go p e below (T.setTop (mkF m pc' Ls' (st))) G) : Go p e below (T.setTop (mkF m pc Ls (v :: st))) G := by
  subst hp; exact go (fun _ => XS.astoreN X.here K.1 (g := mkF m pc Ls (v :: st)) rfl (dc K hd) rfl hv hl) k
theorem i_iconst (K : Cx p l e R s m meth c Z a0 W own nm bytes ml rt) (X : On p l e R s m args below meth c D Z n0 T A cells slots) {i : Int} {v : Int32} {pc' : Nat} (hd : decode bytes pc = .ok (.iconst i, 1)) (hp : pc + 1 = pc') (hv : Int32.ofInt i = v)
    (k : Go p e below (T.setTop (mkF m pc' Ls (.int v :: st))) G) : Go p e below (T.setTop (mkF m pc Ls st)) G := by
  subst hp hv; exact go (fun _ => XS.iconst X.here K.1 (g := mkF m pc Ls st) rfl (dc K hd)) k
theorem i_bipush (K : Cx p l e R s m meth c Z a0 W own nm bytes ml rt) (X : On p l e R s m args below meth c D Z n0 T A cells slots) {i : Int} {v : Int32} {pc' : Nat} (hd : decode bytes pc = .ok (.bipush i, 2)) (hp : pc + 2 = pc') (hv : (Int8.ofInt i).toInt32 = v)
    (k : Go p e below (T.setTop (mkF m pc' Ls (.int v :: st))) G) : Go p e below (T.setTop (mkF m pc Ls st)) G := by
  subst hp hv; exact go (fun _ => XS.bipush X.here K.1 (g := mkF m pc Ls st) rfl (dc K hd)) k
theorem i_sipush (K : Cx p l e R s m meth c Z a0 W own nm bytes ml rt) (X : On p l e R s m args below meth c D Z n0 T A cells slots) {i : Int} {v : Int32} {pc' : Nat} (hd : decode bytes pc = .ok (.sipush i, 3)) (hp : pc + 3 = pc') (hv : (Int16.ofInt i).toInt32 = v)
    (k : Go p e below (T.setTop (mkF m pc' Ls (.int v :: st))) G) : Go p e below (T.setTop (mkF m pc Ls st)) G := by
  subst hp hv; exact go (fun _ => XS.sipush X.here K.1 (g := mkF m pc Ls st) rfl (dc K hd)) k
theorem i_lconst (K : Cx p l e R s m meth c Z a0 W own nm bytes ml rt) (X : On p l e R s m args below meth c D Z n0 T A cells slots) {i : Fin 2} {v : Int64} {pc' : Nat} (hd : decode bytes pc = .ok (.lconst i, 1)) (hp : pc + 1 = pc') (hv : Int64.ofNat i = v)
    (k : Go p e below (T.setTop (mkF m pc' Ls (.long v :: st))) G) : Go p e below (T.setTop (mkF m pc Ls st)) G := by
  subst hp hv; exact go (fun _ => XS.lconst X.here K.1 (g := mkF m pc Ls st) rfl (dc K hd)) k
theorem i_aconstNull (K : Cx p l e R s m meth c Z a0 W own nm bytes ml rt) (X : On p l e R s m args below meth c D Z n0 T A cells slots)  {pc' : Nat} (hd : decode bytes pc = .ok (.aconst_null, 1)) (hp : pc + 1 = pc')
    (k : Go p e below (T.setTop (mkF m pc' Ls (.null :: st))) G) : Go p e below (T.setTop (mkF m pc Ls (st))) G := by
  subst hp; exact go (fun _ => XS.aconstNull X.here K.1 (g := mkF m pc Ls (st)) rfl (dc K hd)) k
theorem i_iinc (K : Cx p l e R s m meth c Z a0 W own nm bytes ml rt) (X : On p l e R s m args below meth c D Z n0 T A cells slots) {x y : Int32} {i : Nat} {cst : Int} {Ls' : Array Slot} {pc' : Nat} (hd : decode bytes pc = .ok (.iinc i cst, 3)) (hp : pc + 3 = pc') (hl : Ls[i]? = some (.val (.int x))) (hy : Int32.ofInt cst = y) (hl' : storeLocals Ls i (.int (x + y)) = some Ls')
    (k : Go p e below (T.setTop (mkF m pc' Ls' st)) G) : Go p e below (T.setTop (mkF m pc Ls st)) G := by
  subst hp hy; exact go (fun _ => XS.iinc X.here K.1 (g := mkF m pc Ls st) rfl (dc K hd) hl hl') k
theorem i_goto (K : Cx p l e R s m meth c Z a0 W own nm bytes ml rt) (X : On p l e R s m args below meth c D Z n0 T A cells slots)  {o : Int} {pc' : Nat} (hd : decode bytes pc = .ok (.goto o, 3))  (ho : 0 ≤ (pc : Int) + o) (hp : ((pc : Int) + o).toNat = pc')
    (k : Go p e below (T.setTop (mkF m pc' Ls st)) G) : Go p e below (T.setTop (mkF m pc Ls (st))) G := by
  exact go (fun _ => XS.goto X.here K.1 (g := mkF m pc Ls (st)) rfl (pc0 := pc) (pc' := pc') rfl (dc K hd)  ho hp) k
theorem i_ifYes (K : Cx p l e R s m meth c Z a0 W own nm bytes ml rt) (X : On p l e R s m args below meth c D Z n0 T A cells slots) {cd : ClassFile.Cond} {x : Int32} {o : Int} {pc' : Nat} (hd : decode bytes pc = .ok (.ifCond cd o, 3)) (h : if_icmp.holds cd x 0 = true) (ho : 0 ≤ (pc : Int) + o) (hp : ((pc : Int) + o).toNat = pc')
    (k : Go p e below (T.setTop (mkF m pc' Ls st)) G) : Go p e below (T.setTop (mkF m pc Ls (.int x :: st))) G := by
  exact go (fun _ => XS.ifYes X.here K.1 (g := mkF m pc Ls (.int x :: st)) rfl (pc0 := pc) (pc' := pc') rfl (dc K hd) rfl ((if0 _ _).trans h) ho hp) k
theorem i_icmpYes (K : Cx p l e R s m meth c Z a0 W own nm bytes ml rt) (X : On p l e R s m args below meth c D Z n0 T A cells slots) {cd : ClassFile.Cond} {x y : Int32} {o : Int} {pc' : Nat} (hd : decode bytes pc = .ok (.if_icmp cd o, 3)) (h : if_icmp.holds cd x y = true) (ho : 0 ≤ (pc : Int) + o) (hp : ((pc : Int) + o).toNat = pc')
    (k : Go p e below (T.setTop (mkF m pc' Ls st)) G) : Go p e below (T.setTop (mkF m pc Ls (.int y :: .int x :: st))) G := by
  exact go (fun _ => XS.icmpYes X.here K.1 (g := mkF m pc Ls (.int y :: .int x :: st)) rfl (pc0 := pc) (pc' := pc') rfl (dc K hd) rfl h ho hp) k
theorem i_ifNo (K : Cx p l e R s m meth c Z a0 W own nm bytes ml rt) (X : On p l e R s m args below meth c D Z n0 T A cells slots) {cd : ClassFile.Cond} {x : Int32} {o : Int} {pc' : Nat} (hd : decode bytes pc = .ok (.ifCond cd o, 3)) (hp : pc + 3 = pc') (h : if_icmp.holds cd x 0 = false)
    (k : Go p e below (T.setTop (mkF m pc' Ls (st))) G) : Go p e below (T.setTop (mkF m pc Ls (.int x :: st))) G := by
  subst hp; exact go (fun _ => XS.ifNo X.here K.1 (g := mkF m pc Ls (.int x :: st)) rfl (dc K hd) rfl ((if0 _ _).trans h)) k
theorem i_icmpNo (K : Cx p l e R s m meth c Z a0 W own nm bytes ml rt) (X : On p l e R s m args below meth c D Z n0 T A cells slots) {cd : ClassFile.Cond} {x y : Int32} {o : Int} {pc' : Nat} (hd : decode bytes pc = .ok (.if_icmp cd o, 3)) (hp : pc + 3 = pc') (h : if_icmp.holds cd x y = false)
    (k : Go p e below (T.setTop (mkF m pc' Ls (st))) G) : Go p e below (T.setTop (mkF m pc Ls (.int y :: .int x :: st))) G := by
  subst hp; exact go (fun _ => XS.icmpNo X.here K.1 (g := mkF m pc Ls (.int y :: .int x :: st)) rfl (dc K hd) rfl h) k
theorem i_ifnullYes (K : Cx p l e R s m meth c Z a0 W own nm bytes ml rt) (X : On p l e R s m args below meth c D Z n0 T A cells slots)  {o : Int} {pc' : Nat} (hd : decode bytes pc = .ok (.ifnull o, 3))  (ho : 0 ≤ (pc : Int) + o) (hp : ((pc : Int) + o).toNat = pc')
    (k : Go p e below (T.setTop (mkF m pc' Ls st)) G) : Go p e below (T.setTop (mkF m pc Ls (.null :: st))) G := by
  exact go (fun _ => XS.ifnullYes X.here K.1 (g := mkF m pc Ls (.null :: st)) rfl (pc0 := pc) (pc' := pc') rfl (dc K hd) rfl ho hp) k
theorem i_ifnullNo (K : Cx p l e R s m meth c Z a0 W own nm bytes ml rt) (X : On p l e R s m args below meth c D Z n0 T A cells slots) {b : Addr} {o : Int} {pc' : Nat} (hd : decode bytes pc = .ok (.ifnull o, 3)) (hp : pc + 3 = pc')
    (k : Go p e below (T.setTop (mkF m pc' Ls (st))) G) : Go p e below (T.setTop (mkF m pc Ls (.ref b :: st))) G := by
  subst hp; exact go (fun _ => XS.ifnullNo X.here K.1 (g := mkF m pc Ls (.ref b :: st)) rfl (dc K hd) rfl) k
theorem i_ifnonnullYes (K : Cx p l e R s m meth c Z a0 W own nm bytes ml rt) (X : On p l e R s m args below meth c D Z n0 T A cells slots) {b : Addr} {o : Int} {pc' : Nat} (hd : decode bytes pc = .ok (.ifnonnull o, 3))  (ho : 0 ≤ (pc : Int) + o) (hp : ((pc : Int) + o).toNat = pc')
    (k : Go p e below (T.setTop (mkF m pc' Ls st)) G) : Go p e below (T.setTop (mkF m pc Ls (.ref b :: st))) G := by
  exact go (fun _ => XS.ifnonnullYes X.here K.1 (g := mkF m pc Ls (.ref b :: st)) rfl (pc0 := pc) (pc' := pc') rfl (dc K hd) rfl ho hp) k
theorem i_ifnonnullNo (K : Cx p l e R s m meth c Z a0 W own nm bytes ml rt) (X : On p l e R s m args below meth c D Z n0 T A cells slots) {o : Int} {pc' : Nat} (hd : decode bytes pc = .ok (.ifnonnull o, 3)) (hp : pc + 3 = pc')
    (k : Go p e below (T.setTop (mkF m pc' Ls (st))) G) : Go p e below (T.setTop (mkF m pc Ls (.null :: st))) G := by
  subst hp; exact go (fun _ => XS.ifnonnullNo X.here K.1 (g := mkF m pc Ls (.null :: st)) rfl (dc K hd) rfl) k
theorem i_dup2 (K : Cx p l e R s m meth c Z a0 W own nm bytes ml rt) (X : On p l e R s m args below meth c D Z n0 T A cells slots) {x y : Value} {pc' : Nat} (hd : decode bytes pc = .ok (.dup2, 1)) (hp : pc + 1 = pc') (h1 : x.category = 1) (h2 : y.category = 1)
    (k : Go p e below (T.setTop (mkF m pc' Ls (x :: y :: x :: y :: st))) G) : Go p e below (T.setTop (mkF m pc Ls (x :: y :: st))) G := by
  subst hp; exact go (fun _ => Jvm.Free.XT.dup2 X.here K.1 (g := mkF m pc Ls (x :: y :: st)) rfl (dc K hd) rfl h1 h2) k
theorem i_dup2L (K : Cx p l e R s m meth c Z a0 W own nm bytes ml rt) (X : On p l e R s m args below meth c D Z n0 T A cells slots) {x : Int64} {pc' : Nat} (hd : decode bytes pc = .ok (.dup2, 1)) (hp : pc + 1 = pc') 
    (k : Go p e below (T.setTop (mkF m pc' Ls (.long x :: .long x :: st))) G) : Go p e below (T.setTop (mkF m pc Ls (.long x :: st))) G := by
  subst hp; exact go (fun _ => Jvm.Free.XT.dup2L X.here K.1 (g := mkF m pc Ls (.long x :: st)) rfl (dc K hd) rfl) k
theorem i_dupX2 (K : Cx p l e R s m meth c Z a0 W own nm bytes ml rt) (X : On p l e R s m args below meth c D Z n0 T A cells slots) {x : Int32} {y : Int32} {z : Addr} {pc' : Nat} (hd : decode bytes pc = .ok (.dup_x2, 1)) (hp : pc + 1 = pc')
    (k : Go p e below (T.setTop (mkF m pc' Ls (.int x :: .int y :: .ref z :: .int x :: st))) G) : Go p e below (T.setTop (mkF m pc Ls (.int x :: .int y :: .ref z :: st))) G := by
  subst hp
  refine go (fun t hk => ?_) k
  have hdc := dc K hd
  jvm_step X.here [X.here.top, K.1, hdc, Value.category]
  exact hk
theorem i_dup2X1 (K : Cx p l e R s m meth c Z a0 W own nm bytes ml rt) (X : On p l e R s m args below meth c D Z n0 T A cells slots) {x : Int64} {z : Addr} {pc' : Nat} (hd : decode bytes pc = .ok (.dup2_x1, 1)) (hp : pc + 1 = pc')
    (k : Go p e below (T.setTop (mkF m pc' Ls (.long x :: .ref z :: .long x :: st))) G) : Go p e below (T.setTop (mkF m pc Ls (.long x :: .ref z :: st))) G := by
  subst hp
  refine go (fun t hk => ?_) k
  have hdc := dc K hd
  jvm_step X.here [X.here.top, K.1, hdc, Value.category]
  exact hk
theorem i_dup2X2 (K : Cx p l e R s m meth c Z a0 W own nm bytes ml rt) (X : On p l e R s m args below meth c D Z n0 T A cells slots) {x : Int64} {y : Int32} {z : Addr} {pc' : Nat} (hd : decode bytes pc = .ok (.dup2_x2, 1)) (hp : pc + 1 = pc')
    (k : Go p e below (T.setTop (mkF m pc' Ls (.long x :: .int y :: .ref z :: .long x :: st))) G) : Go p e below (T.setTop (mkF m pc Ls (.long x :: .int y :: .ref z :: st))) G := by
  subst hp
  refine go (fun t hk => ?_) k
  have hdc := dc K hd
  jvm_step X.here [X.here.top, K.1, hdc, Value.category]
  exact hk
theorem stOne {Ls Ls' : Array Slot} {i : Nat} {v : Value} {o : Slot} (h : One o) (hold : Ls[i]? = some o) (hv : v.category = 1) (e : Ls.setIfInBounds i (.val v) = Ls') : storeLocals Ls i v = some Ls' := by
  rw [← e]; exact XS.store1 hold h hv
theorem bs {α β : Type} {o : Option α} {f : α → Option β} {b : β} (h : o.bind f = some b) : ∃ a, o = some a ∧ f a = some b := Option.bind_eq_some_iff.mp h
end Instr
end Jvm.OwnKit
namespace Jvm.Pilot.@@N@@
open Jvm Jvm.ClassFile Sem Op Lib Jvm.Free Jvm.Stand Jvm.LawKit Jvm.RoadKit Jvm.OwnKit Bundle Jvm.Pilot.@@N@@.Jvm.D
def own_D : Dic
  | _ => ("", [])
theorem own_sep {Z : State} {a0 : Array Value} (hw : ∀ d ∈ tables_1, d.before a0 Z = true) : ∀ t, Sep Z (own_D t).2 := by
  intro t
  unfold own_D
  split
  · exact Sep.nil
section OwnWalk
variable {p : Program} {l : Launch} {e : Env} {s : State} {m : MethodId} {args : Array Value} {below : List Frame} {meth : Method} {c : Code} {Z : State} {a0 : Array Value} {n0 : Nat} {T : State} {A : AH} {cells slots : Nat}
/-! body 1: PayloadWriter.writeTwoDigits([CII)V -/
theorem d1_0 : decode prog_48_method_5_code 0 = .ok (.aload_n 0, 1) := by decide +kernel
theorem d1_1 : decode prog_48_method_5_code 1 = .ok (.iload_n 1, 1) := by decide +kernel
theorem d1_2 : decode prog_48_method_5_code 2 = .ok (.bipush 48, 2) := by decide +kernel
theorem d1_4 : decode prog_48_method_5_code 4 = .ok (.iload_n 2, 1) := by decide +kernel
theorem d1_5 : decode prog_48_method_5_code 5 = .ok (.bipush 10, 2) := by decide +kernel
theorem d1_7 : decode prog_48_method_5_code 7 = .ok (.idiv, 1) := by decide +kernel
theorem d1_8 : decode prog_48_method_5_code 8 = .ok (.iadd, 1) := by decide +kernel
theorem d1_9 : decode prog_48_method_5_code 9 = .ok (.i2c, 1) := by decide +kernel
theorem d1_10 : decode prog_48_method_5_code 10 = .ok (.castore, 1) := by decide +kernel
theorem d1_11 : decode prog_48_method_5_code 11 = .ok (.aload_n 0, 1) := by decide +kernel
theorem d1_12 : decode prog_48_method_5_code 12 = .ok (.iload_n 1, 1) := by decide +kernel
theorem d1_13 : decode prog_48_method_5_code 13 = .ok (.iconst 1, 1) := by decide +kernel
theorem d1_14 : decode prog_48_method_5_code 14 = .ok (.iadd, 1) := by decide +kernel
theorem d1_15 : decode prog_48_method_5_code 15 = .ok (.bipush 48, 2) := by decide +kernel
theorem d1_17 : decode prog_48_method_5_code 17 = .ok (.iload_n 2, 1) := by decide +kernel
theorem d1_18 : decode prog_48_method_5_code 18 = .ok (.bipush 10, 2) := by decide +kernel
theorem d1_20 : decode prog_48_method_5_code 20 = .ok (.irem, 1) := by decide +kernel
theorem d1_21 : decode prog_48_method_5_code 21 = .ok (.iadd, 1) := by decide +kernel
theorem d1_22 : decode prog_48_method_5_code 22 = .ok (.i2c, 1) := by decide +kernel
theorem d1_23 : decode prog_48_method_5_code 23 = .ok (.castore, 1) := by decide +kernel
theorem d1_24 : decode prog_48_method_5_code 24 = .ok (.return_, 1) := by decide +kernel
theorem pd_1 : parseMethodDescriptor "([CII)V" = some ⟨[(.array .char), .int, .int], none⟩ := by decide +kernel
abbrev own_R1 : Room := { frames := 0, cells := 0, slots := 0, locals := 0 }
def f1_23 (A : AH) (s0 : Int32) (s1 : Int32) (r2 : Nat) : Option (AH) :=
  (h_aset A 1 r2 s1 (.int (nar .char s0))).bind fun A1 =>
  some A1
set_option maxRecDepth 65536 in
set_option maxHeartbeats 4000000 in
theorem w1_23 (K : Cx p l e own_R1 s m meth c Z a0 tables_1 "com/example/cordel/cordel/PayloadWriter" "writeTwoDigits" prog_48_method_5_code 3 none) (sep : ∀ t, Sep Z (own_D t).2) (X : On p l e own_R1 s m args below meth c own_D Z n0 T A cells slots) (o0 : Nat) (i1 : Int32) (i2 : Int32) (s0 : Int32) (s1 : Int32) (r2 : Nat) (hc : cells + 0 ≤ 0) (hs : slots + 0 ≤ 0) {q : AH} (hf : f1_23 A s0 s1 r2 = some q) :
    Go p e below (T.setTop (mkF m 23 #[.val (.ref (n0 + o0)), .val (.int i1), .val (.int i2)] [(.int s0), (.int s1), (.ref (n0 + r2))])) (Fini own_D Z n0 s own_R1 none q) := by
  unfold f1_23 at hf
  obtain ⟨A1, g1, hf⟩ := bs hf
  refine ast1 (pc' := 24) K X g1 d1_23 rfl (fun T1 X1 => ?_)
  cases hf
  exact retV K X1 (show cells ≤ 0 by omega) (show slots ≤ 0 by omega) d1_24
def f1_10 (A : AH) (o0 : Nat) (i1 : Int32) (i2 : Int32) (s0 : Int32) (s1 : Int32) (r2 : Nat) : Option (AH) :=
  (h_aset A 1 r2 s1 (.int (nar .char s0))).bind fun A1 =>
  f1_23 A1 ((((48 : Int32) + (i2 % (10 : Int32)))).toUInt32.toUInt16.toUInt32.toInt32) (i1 + (1 : Int32)) o0
set_option maxRecDepth 65536 in
set_option maxHeartbeats 4000000 in
theorem w1_10 (K : Cx p l e own_R1 s m meth c Z a0 tables_1 "com/example/cordel/cordel/PayloadWriter" "writeTwoDigits" prog_48_method_5_code 3 none) (sep : ∀ t, Sep Z (own_D t).2) (X : On p l e own_R1 s m args below meth c own_D Z n0 T A cells slots) (o0 : Nat) (i1 : Int32) (i2 : Int32) (s0 : Int32) (s1 : Int32) (r2 : Nat) (hc : cells + 0 ≤ 0) (hs : slots + 0 ≤ 0) {q : AH} (hf : f1_10 A o0 i1 i2 s0 s1 r2 = some q) :
    Go p e below (T.setTop (mkF m 10 #[.val (.ref (n0 + o0)), .val (.int i1), .val (.int i2)] [(.int s0), (.int s1), (.ref (n0 + r2))])) (Fini own_D Z n0 s own_R1 none q) := by
  unfold f1_10 at hf
  obtain ⟨A1, g1, hf⟩ := bs hf
  refine ast1 (pc' := 11) K X g1 d1_10 rfl (fun T1 X1 => ?_)
  refine i_aloadN (pc' := 12) K X1 d1_11 rfl rfl rfl ?_
  refine i_iloadN (pc' := 13) K X1 d1_12 rfl rfl ?_
  refine i_iconst (pc' := 14) (v := (1 : Int32)) K X1 d1_13 rfl rfl ?_
  refine i_iadd (pc' := 15) K X1 d1_14 rfl ?_
  refine i_bipush (pc' := 17) (v := (48 : Int32)) K X1 d1_15 rfl rfl ?_
  refine i_iloadN (pc' := 18) K X1 d1_17 rfl rfl ?_
  refine i_bipush (pc' := 20) (v := (10 : Int32)) K X1 d1_18 rfl rfl ?_
  refine i_irem (pc' := 21) K X1 d1_20 rfl (by decide) ?_
  refine i_iadd (pc' := 22) K X1 d1_21 rfl ?_
  refine i_i2c (pc' := 23) K X1 d1_22 rfl ?_
  exact w1_23 K sep X1 o0 i1 i2 ((((48 : Int32) + (i2 % (10 : Int32)))).toUInt32.toUInt16.toUInt32.toInt32) (i1 + (1 : Int32)) o0 (show cells + 0 ≤ 0 by omega) (show slots + 0 ≤ 0 by omega) hf
def f1_0 (A : AH) (o0 : Nat) (i1 : Int32) (i2 : Int32) : Option (AH) :=
  f1_10 A o0 i1 i2 ((((48 : Int32) + (i2 / (10 : Int32)))).toUInt32.toUInt16.toUInt32.toInt32) i1 o0
set_option maxRecDepth 65536 in
set_option maxHeartbeats 4000000 in
theorem w1_0 (K : Cx p l e own_R1 s m meth c Z a0 tables_1 "com/example/cordel/cordel/PayloadWriter" "writeTwoDigits" prog_48_method_5_code 3 none) (sep : ∀ t, Sep Z (own_D t).2) (X : On p l e own_R1 s m args below meth c own_D Z n0 T A cells slots) (o0 : Nat) (i1 : Int32) (i2 : Int32) (hc : cells + 0 ≤ 0) (hs : slots + 0 ≤ 0) {q : AH} (hf : f1_0 A o0 i1 i2 = some q) :
    Go p e below (T.setTop (mkF m 0 #[.val (.ref (n0 + o0)), .val (.int i1), .val (.int i2)] [])) (Fini own_D Z n0 s own_R1 none q) := by
  unfold f1_0 at hf
  refine i_aloadN (pc' := 1) K X d1_0 rfl rfl rfl ?_
  refine i_iloadN (pc' := 2) K X d1_1 rfl rfl ?_
  refine i_bipush (pc' := 4) (v := (48 : Int32)) K X d1_2 rfl rfl ?_
  refine i_iloadN (pc' := 5) K X d1_4 rfl rfl ?_
  refine i_bipush (pc' := 7) (v := (10 : Int32)) K X d1_5 rfl rfl ?_
  refine i_idiv (pc' := 8) K X d1_7 rfl (by decide) ?_
  refine i_iadd (pc' := 9) K X d1_8 rfl ?_
  refine i_i2c (pc' := 10) K X d1_9 rfl ?_
  exact w1_10 K sep X o0 i1 i2 ((((48 : Int32) + (i2 / (10 : Int32)))).toUInt32.toUInt16.toUInt32.toInt32) i1 o0 (show cells + 0 ≤ 0 by omega) (show slots + 0 ≤ 0 by omega) hf
theorem pn_1 : plainName "com/example/cordel/cordel/PayloadWriter" = true := by first | (simp [plainName, overriddenIn]; done) | decide +kernel
theorem rm1 {l : Launch} {Z : State} {a0 : Array Value} {n0 : Nat} (hw : ∀ d ∈ tables_1, d.before a0 Z = true) (A : AH) (o0 : Nat) (i1 : Int32) (i2 : Int32) {q : AH} (hf : f1_0 A o0 i1 i2 = some q) :
    Met l own_D Z n0 (⟨"com/example/cordel/cordel/PayloadWriter", "writeTwoDigits", "([CII)V"⟩ : MethodName) prog_48_method_5_code 3 none own_R1 [(.ref (n0 + o0)), (.int i1), (.int i2)] A none q :=
  met (W := tables_1) (a0 := a0) (own := "com/example/cordel/cordel/PayloadWriter") (nm := "writeTwoDigits") (L0 := #[.val (.ref (n0 + o0)), .val (.int i1), .val (.int i2)]) (plainFor_of_name pn_1) hw rfl rfl (fun m => by first | (simp [entryFrame, mkF, argsToLocals, Value.category]; done) | rfl) (fun p e s m below meth c T K X => w1_0 K (own_sep hw) X o0 i1 i2 (show 0 + 0 ≤ 0 by decide) (show 0 + 0 ≤ 0 by decide) hf)
/-! body 2: PayloadWriterWriteTwoDigitsPinLaw.kept([CIIC)Z -/
theorem d2_0 : decode method_3_code 0 = .ok (.iload_n 1, 1) := by decide +kernel
theorem d2_1 : decode method_3_code 1 = .ok (.iload_n 2, 1) := by decide +kernel
theorem d2_2 : decode method_3_code 2 = .ok (.if_icmp .eq 17, 3) := by decide +kernel
theorem d2_5 : decode method_3_code 5 = .ok (.iload_n 1, 1) := by decide +kernel
theorem d2_6 : decode method_3_code 6 = .ok (.iload_n 2, 1) := by decide +kernel
theorem d2_7 : decode method_3_code 7 = .ok (.iconst 1, 1) := by decide +kernel
theorem d2_8 : decode method_3_code 8 = .ok (.iadd, 1) := by decide +kernel
theorem d2_9 : decode method_3_code 9 = .ok (.if_icmp .eq 10, 3) := by decide +kernel
theorem d2_12 : decode method_3_code 12 = .ok (.aload_n 0, 1) := by decide +kernel
theorem d2_13 : decode method_3_code 13 = .ok (.iload_n 1, 1) := by decide +kernel
theorem d2_14 : decode method_3_code 14 = .ok (.caload, 1) := by decide +kernel
theorem d2_15 : decode method_3_code 15 = .ok (.iload_n 3, 1) := by decide +kernel
theorem d2_16 : decode method_3_code 16 = .ok (.if_icmp .ne 7, 3) := by decide +kernel
theorem d2_19 : decode method_3_code 19 = .ok (.iconst 1, 1) := by decide +kernel
theorem d2_20 : decode method_3_code 20 = .ok (.goto 4, 3) := by decide +kernel
theorem d2_23 : decode method_3_code 23 = .ok (.iconst 0, 1) := by decide +kernel
theorem d2_24 : decode method_3_code 24 = .ok (.ireturn, 1) := by decide +kernel
theorem pd_2 : parseMethodDescriptor "([CIIC)Z" = some ⟨[(.array .char), .int, .int, .char], some .boolean⟩ := by decide +kernel
abbrev own_R2 : Room := { frames := 0, cells := 0, slots := 0, locals := 0 }
def f2_24 (A : AH) (s0 : Int32) : Option (Int32 × AH) :=
  some ((nar .boolean s0), A)
set_option maxRecDepth 65536 in
set_option maxHeartbeats 4000000 in
theorem w2_24 (K : Cx p l e own_R2 s m meth c Z a0 tables_1 "com/example/cordel/cordel/PayloadWriterWriteTwoDigitsPinLaw" "kept" method_3_code 4 (some .boolean)) (sep : ∀ t, Sep Z (own_D t).2) (X : On p l e own_R2 s m args below meth c own_D Z n0 T A cells slots) (o0 : Nat) (i1 : Int32) (i2 : Int32) (i3 : Int32) (s0 : Int32) (hc : cells + 0 ≤ 0) (hs : slots + 0 ≤ 0) {q : Int32 × AH} (hf : f2_24 A s0 = some q) :
    Go p e below (T.setTop (mkF m 24 #[.val (.ref (n0 + o0)), .val (.int i1), .val (.int i2), .val (.int i3)] [(.int s0)])) (Fini own_D Z n0 s own_R2 (some (.int q.1)) q.2) := by
  unfold f2_24 at hf
  cases hf
  exact retB K (by simp) X (show cells ≤ 0 by omega) (show slots ≤ 0 by omega) d2_24
def f2_19 (A : AH)  : Option (Int32 × AH) :=
  f2_24 A (1 : Int32)
set_option maxRecDepth 65536 in
set_option maxHeartbeats 4000000 in
theorem w2_19 (K : Cx p l e own_R2 s m meth c Z a0 tables_1 "com/example/cordel/cordel/PayloadWriterWriteTwoDigitsPinLaw" "kept" method_3_code 4 (some .boolean)) (sep : ∀ t, Sep Z (own_D t).2) (X : On p l e own_R2 s m args below meth c own_D Z n0 T A cells slots) (o0 : Nat) (i1 : Int32) (i2 : Int32) (i3 : Int32) (hc : cells + 0 ≤ 0) (hs : slots + 0 ≤ 0) {q : Int32 × AH} (hf : f2_19 A  = some q) :
    Go p e below (T.setTop (mkF m 19 #[.val (.ref (n0 + o0)), .val (.int i1), .val (.int i2), .val (.int i3)] [])) (Fini own_D Z n0 s own_R2 (some (.int q.1)) q.2) := by
  unfold f2_19 at hf
  refine i_iconst (pc' := 20) (v := (1 : Int32)) K X d2_19 rfl rfl ?_
  refine i_goto (pc' := 24) K X d2_20 (by decide) (by decide) ?_
  exact w2_24 K sep X o0 i1 i2 i3 (1 : Int32) (show cells + 0 ≤ 0 by omega) (show slots + 0 ≤ 0 by omega) hf
def f2_0 (A : AH) (o0 : Nat) (i1 : Int32) (i2 : Int32) (i3 : Int32) : Option (Int32 × AH) :=
  if i1 = i2 then (f2_19 A )
  else (if i1 = (i2 + (1 : Int32)) then (f2_19 A )
  else ((asI (h_aget A 1 o0 i1)).bind fun v1 =>
  if v1 = i3 then (f2_19 A )
  else (f2_24 A (0 : Int32))))
set_option maxRecDepth 65536 in
set_option maxHeartbeats 4000000 in
theorem w2_0 (K : Cx p l e own_R2 s m meth c Z a0 tables_1 "com/example/cordel/cordel/PayloadWriterWriteTwoDigitsPinLaw" "kept" method_3_code 4 (some .boolean)) (sep : ∀ t, Sep Z (own_D t).2) (X : On p l e own_R2 s m args below meth c own_D Z n0 T A cells slots) (o0 : Nat) (i1 : Int32) (i2 : Int32) (i3 : Int32) (hc : cells + 0 ≤ 0) (hs : slots + 0 ≤ 0) {q : Int32 × AH} (hf : f2_0 A o0 i1 i2 i3 = some q) :
    Go p e below (T.setTop (mkF m 0 #[.val (.ref (n0 + o0)), .val (.int i1), .val (.int i2), .val (.int i3)] [])) (Fini own_D Z n0 s own_R2 (some (.int q.1)) q.2) := by
  unfold f2_0 at hf
  refine i_iloadN (pc' := 1) K X d2_0 rfl rfl ?_
  refine i_iloadN (pc' := 2) K X d2_1 rfl rfl ?_
  by_cases hc2 : i1 = i2
  · rw [if_pos hc2] at hf
    refine i_icmpYes (pc' := 19) K X d2_2 (teq hc2).1 (by decide) (by decide) ?_
    exact w2_19 K sep X o0 i1 i2 i3 (show cells + 0 ≤ 0 by omega) (show slots + 0 ≤ 0 by omega) hf
  · rw [if_neg hc2] at hf
    refine i_icmpNo (pc' := 5) K X d2_2 rfl (feq hc2).1 ?_
    refine i_iloadN (pc' := 6) K X d2_5 rfl rfl ?_
    refine i_iloadN (pc' := 7) K X d2_6 rfl rfl ?_
    refine i_iconst (pc' := 8) (v := (1 : Int32)) K X d2_7 rfl rfl ?_
    refine i_iadd (pc' := 9) K X d2_8 rfl ?_
    by_cases hc9 : i1 = (i2 + (1 : Int32))
    · rw [if_pos hc9] at hf
      refine i_icmpYes (pc' := 19) K X d2_9 (teq hc9).1 (by decide) (by decide) ?_
      exact w2_19 K sep X o0 i1 i2 i3 (show cells + 0 ≤ 0 by omega) (show slots + 0 ≤ 0 by omega) hf
    · rw [if_neg hc9] at hf
      refine i_icmpNo (pc' := 12) K X d2_9 rfl (feq hc9).1 ?_
      refine i_aloadN (pc' := 13) K X d2_12 rfl rfl rfl ?_
      refine i_iloadN (pc' := 14) K X d2_13 rfl rfl ?_
      obtain ⟨v1, g1, hf⟩ := bs hf
      refine ld1 (pc' := 15) K X g1 d2_14 rfl ?_
      refine i_iloadN (pc' := 16) K X d2_15 rfl rfl ?_
      by_cases hc16 : v1 = i3
      · rw [if_pos hc16] at hf
        refine i_icmpNo (pc' := 19) K X d2_16 rfl (teq hc16).2 ?_
        exact w2_19 K sep X o0 i1 i2 i3 (show cells + 0 ≤ 0 by omega) (show slots + 0 ≤ 0 by omega) hf
      · rw [if_neg hc16] at hf
        refine i_icmpYes (pc' := 23) K X d2_16 (feq hc16).2 (by decide) (by decide) ?_
        refine i_iconst (pc' := 24) (v := (0 : Int32)) K X d2_23 rfl rfl ?_
        exact w2_24 K sep X o0 i1 i2 i3 (0 : Int32) (show cells + 0 ≤ 0 by omega) (show slots + 0 ≤ 0 by omega) hf
theorem pn_2 : plainName "com/example/cordel/cordel/PayloadWriterWriteTwoDigitsPinLaw" = true := by first | (simp [plainName, overriddenIn]; done) | decide +kernel
theorem rm2 {l : Launch} {Z : State} {a0 : Array Value} {n0 : Nat} (hw : ∀ d ∈ tables_1, d.before a0 Z = true) (A : AH) (o0 : Nat) (i1 : Int32) (i2 : Int32) (i3 : Int32) {q : Int32 × AH} (hf : f2_0 A o0 i1 i2 i3 = some q) :
    Met l own_D Z n0 (⟨"com/example/cordel/cordel/PayloadWriterWriteTwoDigitsPinLaw", "kept", "([CIIC)Z"⟩ : MethodName) method_3_code 4 (some .boolean) own_R2 [(.ref (n0 + o0)), (.int i1), (.int i2), (.int i3)] A (some (.int q.1)) q.2 :=
  met (W := tables_1) (a0 := a0) (own := "com/example/cordel/cordel/PayloadWriterWriteTwoDigitsPinLaw") (nm := "kept") (L0 := #[.val (.ref (n0 + o0)), .val (.int i1), .val (.int i2), .val (.int i3)]) (plainFor_of_name pn_2) hw rfl rfl (fun m => by first | (simp [entryFrame, mkF, argsToLocals, Value.category]; done) | rfl) (fun p e s m below meth c T K X => w2_0 K (own_sep hw) X o0 i1 i2 i3 (show 0 + 0 ≤ 0 by decide) (show 0 + 0 ≤ 0 by decide) hf)
def f0_159 (A : AH)  : Option (Int32 × AH) :=
  some ((nar .boolean (0 : Int32)), A)
set_option maxRecDepth 65536 in
set_option maxHeartbeats 4000000 in
theorem w0_159 (K : Cx p l e room_1 s m meth c Z a0 tables_1 "com/example/cordel/cordel/PayloadWriterWriteTwoDigitsPinLaw" "law" code maxLocals ret) (sep : ∀ t, Sep Z (own_D t).2) (X : On p l e room_1 s m args below meth c own_D Z n0 T A cells slots) (i0 : Int32) (i1 : Int32) (i2 : Int32) (i3 : Int32) (i4 : Int32) (i5 : Int32) (i6 : Int32) (i7 : Int32) (i8 : Int32) (i9 : Int32) (i10 : Int32) (i11 : Int32) (i12 : Int32) (o13 : Nat) (i14 : Int32) (i15 : Int32) (hc : cells + 0 ≤ 16) (hs : slots + 0 ≤ 128) {q : Int32 × AH} (hf : f0_159 A  = some q) :
    Go p e below (T.setTop (mkF m 159 #[.val (.int i0), .val (.int i1), .val (.int i2), .val (.int i3), .val (.int i4), .val (.int i5), .val (.int i6), .val (.int i7), .val (.int i8), .val (.int i9), .val (.int i10), .val (.int i11), .val (.int i12), .val (.ref (n0 + o13)), .val (.int i14), .val (.int i15)] [])) (Fini own_D Z n0 s room_1 (some (.int q.1)) q.2) := by
  unfold f0_159 at hf
  refine i_iconst (pc' := 160) (v := (0 : Int32)) K X at_159 rfl rfl ?_
  cases hf
  exact retB K (by simp) X (show cells ≤ 16 by omega) (show slots ≤ 128 by omega) at_160
def f0_265 (A : AH) (s0 : Int32) : Option (Int32 × AH) :=
  some ((nar .boolean s0), A)
set_option maxRecDepth 65536 in
set_option maxHeartbeats 4000000 in
theorem w0_265 (K : Cx p l e room_1 s m meth c Z a0 tables_1 "com/example/cordel/cordel/PayloadWriterWriteTwoDigitsPinLaw" "law" code maxLocals ret) (sep : ∀ t, Sep Z (own_D t).2) (X : On p l e room_1 s m args below meth c own_D Z n0 T A cells slots) (i0 : Int32) (i1 : Int32) (i2 : Int32) (i3 : Int32) (i4 : Int32) (i5 : Int32) (i6 : Int32) (i7 : Int32) (i8 : Int32) (i9 : Int32) (i10 : Int32) (i11 : Int32) (i12 : Int32) (o13 : Nat) (i14 : Int32) (i15 : Int32) (s0 : Int32) (hc : cells + 0 ≤ 16) (hs : slots + 0 ≤ 128) {q : Int32 × AH} (hf : f0_265 A s0 = some q) :
    Go p e below (T.setTop (mkF m 265 #[.val (.int i0), .val (.int i1), .val (.int i2), .val (.int i3), .val (.int i4), .val (.int i5), .val (.int i6), .val (.int i7), .val (.int i8), .val (.int i9), .val (.int i10), .val (.int i11), .val (.int i12), .val (.ref (n0 + o13)), .val (.int i14), .val (.int i15)] [(.int s0)])) (Fini own_D Z n0 s room_1 (some (.int q.1)) q.2) := by
  unfold f0_265 at hf
  cases hf
  exact retB K (by simp) X (show cells ≤ 16 by omega) (show slots ≤ 128 by omega) at_265
def f0_264 (A : AH)  : Option (Int32 × AH) :=
  f0_265 A (0 : Int32)
set_option maxRecDepth 65536 in
set_option maxHeartbeats 4000000 in
theorem w0_264 (K : Cx p l e room_1 s m meth c Z a0 tables_1 "com/example/cordel/cordel/PayloadWriterWriteTwoDigitsPinLaw" "law" code maxLocals ret) (sep : ∀ t, Sep Z (own_D t).2) (X : On p l e room_1 s m args below meth c own_D Z n0 T A cells slots) (i0 : Int32) (i1 : Int32) (i2 : Int32) (i3 : Int32) (i4 : Int32) (i5 : Int32) (i6 : Int32) (i7 : Int32) (i8 : Int32) (i9 : Int32) (i10 : Int32) (i11 : Int32) (i12 : Int32) (o13 : Nat) (i14 : Int32) (i15 : Int32) (hc : cells + 0 ≤ 16) (hs : slots + 0 ≤ 128) {q : Int32 × AH} (hf : f0_264 A  = some q) :
    Go p e below (T.setTop (mkF m 264 #[.val (.int i0), .val (.int i1), .val (.int i2), .val (.int i3), .val (.int i4), .val (.int i5), .val (.int i6), .val (.int i7), .val (.int i8), .val (.int i9), .val (.int i10), .val (.int i11), .val (.int i12), .val (.ref (n0 + o13)), .val (.int i14), .val (.int i15)] [])) (Fini own_D Z n0 s room_1 (some (.int q.1)) q.2) := by
  unfold f0_264 at hf
  refine i_iconst (pc' := 265) (v := (0 : Int32)) K X at_264 rfl rfl ?_
  exact w0_265 K sep X i0 i1 i2 i3 i4 i5 i6 i7 i8 i9 i10 i11 i12 o13 i14 i15 (0 : Int32) (show cells + 0 ≤ 16 by omega) (show slots + 0 ≤ 128 by omega) hf
def f0_247 (A : AH) (i6 : Int32) (i12 : Int32) (o13 : Nat) : Option (Int32 × AH) :=
  (f2_0 A o13 (5 : Int32) i6 i12).bind fun q1 =>
  if q1.1 = (0 : Int32) then (f0_264 q1.2 )
  else (f0_265 q1.2 (1 : Int32))
set_option maxRecDepth 65536 in
set_option maxHeartbeats 4000000 in
theorem w0_247 (K : Cx p l e room_1 s m meth c Z a0 tables_1 "com/example/cordel/cordel/PayloadWriterWriteTwoDigitsPinLaw" "law" code maxLocals ret) (sep : ∀ t, Sep Z (own_D t).2) (X : On p l e room_1 s m args below meth c own_D Z n0 T A cells slots) (i0 : Int32) (i1 : Int32) (i2 : Int32) (i3 : Int32) (i4 : Int32) (i5 : Int32) (i6 : Int32) (i7 : Int32) (i8 : Int32) (i9 : Int32) (i10 : Int32) (i11 : Int32) (i12 : Int32) (o13 : Nat) (i14 : Int32) (i15 : Int32) (hc : cells + 0 ≤ 16) (hs : slots + 0 ≤ 128) {q : Int32 × AH} (hf : f0_247 A i6 i12 o13 = some q) :
    Go p e below (T.setTop (mkF m 247 #[.val (.int i0), .val (.int i1), .val (.int i2), .val (.int i3), .val (.int i4), .val (.int i5), .val (.int i6), .val (.int i7), .val (.int i8), .val (.int i9), .val (.int i10), .val (.int i11), .val (.int i12), .val (.ref (n0 + o13)), .val (.int i14), .val (.int i15)] [])) (Fini own_D Z n0 s room_1 (some (.int q.1)) q.2) := by
  unfold f0_247 at hf
  refine i_aload (pc' := 249) K X at_247 rfl rfl rfl ?_
  refine i_iconst (pc' := 250) (v := (5 : Int32)) K X at_249 rfl rfl ?_
  refine i_iload (pc' := 252) K X at_250 rfl rfl ?_
  refine i_iload (pc' := 254) K X at_252 rfl rfl ?_
  obtain ⟨q1, g1, hf⟩ := bs hf
  refine calls (pc' := 257) (kc := cells) (ks := slots) (S' := [(.int q1.1)]) (st := []) K X (i1 := 7) rfl (i2 := 8) rfl (i3 := 9) rfl (i4 := 10) rfl (by decide) (rm2 (l := l) (n0 := n0) (K.2.2.2.2.2.2.2.2) A o13 (5 : Int32) i6 i12 g1) pd_2 rfl at_254 rfl rfl (by decide) (w := 0) (Nat.le_of_eq rfl) (by decide) (show cells + 0 ≤ 16 by omega) (show slots + 0 ≤ 128 by omega) rfl rfl rfl rfl (fun T1 X1 => ?_)
  by_cases hc257 : q1.1 = (0 : Int32)
  · rw [if_pos hc257] at hf
    refine i_ifYes (pc' := 264) K X1 at_257 (teq hc257).1 (by decide) (by decide) ?_
    exact w0_264 K sep X1 i0 i1 i2 i3 i4 i5 i6 i7 i8 i9 i10 i11 i12 o13 i14 i15 (show cells + 0 ≤ 16 by omega) (show slots + 0 ≤ 128 by omega) hf
  · rw [if_neg hc257] at hf
    refine i_ifNo (pc' := 260) K X1 at_257 rfl (feq hc257).1 ?_
    refine i_iconst (pc' := 261) (v := (1 : Int32)) K X1 at_260 rfl rfl ?_
    refine i_goto (pc' := 265) K X1 at_261 (by decide) (by decide) ?_
    exact w0_265 K sep X1 i0 i1 i2 i3 i4 i5 i6 i7 i8 i9 i10 i11 i12 o13 i14 i15 (1 : Int32) (show cells + 0 ≤ 16 by omega) (show slots + 0 ≤ 128 by omega) hf
def f0_211 (A : AH) (i6 : Int32) (i9 : Int32) (i10 : Int32) (i11 : Int32) (i12 : Int32) (o13 : Nat) (s0 : Int32) (r1 : Nat) : Option (Int32 × AH) :=
  (f2_0 A r1 s0 i6 i9).bind fun q1 =>
  if q1.1 = (0 : Int32) then (f0_264 q1.2 )
  else ((f2_0 q1.2 o13 (3 : Int32) i6 i10).bind fun q2 =>
  if q2.1 = (0 : Int32) then (f0_264 q2.2 )
  else ((f2_0 q2.2 o13 (4 : Int32) i6 i11).bind fun q3 =>
  if q3.1 = (0 : Int32) then (f0_264 q3.2 )
  else (f0_247 q3.2 i6 i12 o13)))
set_option maxRecDepth 65536 in
set_option maxHeartbeats 4000000 in
theorem w0_211 (K : Cx p l e room_1 s m meth c Z a0 tables_1 "com/example/cordel/cordel/PayloadWriterWriteTwoDigitsPinLaw" "law" code maxLocals ret) (sep : ∀ t, Sep Z (own_D t).2) (X : On p l e room_1 s m args below meth c own_D Z n0 T A cells slots) (i0 : Int32) (i1 : Int32) (i2 : Int32) (i3 : Int32) (i4 : Int32) (i5 : Int32) (i6 : Int32) (i7 : Int32) (i8 : Int32) (i9 : Int32) (i10 : Int32) (i11 : Int32) (i12 : Int32) (o13 : Nat) (i14 : Int32) (i15 : Int32) (s0 : Int32) (r1 : Nat) (hc : cells + 0 ≤ 16) (hs : slots + 0 ≤ 128) {q : Int32 × AH} (hf : f0_211 A i6 i9 i10 i11 i12 o13 s0 r1 = some q) :
    Go p e below (T.setTop (mkF m 211 #[.val (.int i0), .val (.int i1), .val (.int i2), .val (.int i3), .val (.int i4), .val (.int i5), .val (.int i6), .val (.int i7), .val (.int i8), .val (.int i9), .val (.int i10), .val (.int i11), .val (.int i12), .val (.ref (n0 + o13)), .val (.int i14), .val (.int i15)] [(.int s0), (.ref (n0 + r1))])) (Fini own_D Z n0 s room_1 (some (.int q.1)) q.2) := by
  unfold f0_211 at hf
  refine i_iload (pc' := 213) K X at_211 rfl rfl ?_
  refine i_iload (pc' := 215) K X at_213 rfl rfl ?_
  obtain ⟨q1, g1, hf⟩ := bs hf
  refine calls (pc' := 218) (kc := cells) (ks := slots) (S' := [(.int q1.1)]) (st := []) K X (i1 := 7) rfl (i2 := 8) rfl (i3 := 9) rfl (i4 := 10) rfl (by decide) (rm2 (l := l) (n0 := n0) (K.2.2.2.2.2.2.2.2) A r1 s0 i6 i9 g1) pd_2 rfl at_215 rfl rfl (by decide) (w := 0) (Nat.le_of_eq rfl) (by decide) (show cells + 0 ≤ 16 by omega) (show slots + 0 ≤ 128 by omega) rfl rfl rfl rfl (fun T1 X1 => ?_)
  by_cases hc218 : q1.1 = (0 : Int32)
  · rw [if_pos hc218] at hf
    refine i_ifYes (pc' := 264) K X1 at_218 (teq hc218).1 (by decide) (by decide) ?_
    exact w0_264 K sep X1 i0 i1 i2 i3 i4 i5 i6 i7 i8 i9 i10 i11 i12 o13 i14 i15 (show cells + 0 ≤ 16 by omega) (show slots + 0 ≤ 128 by omega) hf
  · rw [if_neg hc218] at hf
    refine i_ifNo (pc' := 221) K X1 at_218 rfl (feq hc218).1 ?_
    refine i_aload (pc' := 223) K X1 at_221 rfl rfl rfl ?_
    refine i_iconst (pc' := 224) (v := (3 : Int32)) K X1 at_223 rfl rfl ?_
    refine i_iload (pc' := 226) K X1 at_224 rfl rfl ?_
    refine i_iload (pc' := 228) K X1 at_226 rfl rfl ?_
    obtain ⟨q2, g2, hf⟩ := bs hf
    refine calls (pc' := 231) (kc := cells) (ks := slots) (S' := [(.int q2.1)]) (st := []) K X1 (i1 := 7) rfl (i2 := 8) rfl (i3 := 9) rfl (i4 := 10) rfl (by decide) (rm2 (l := l) (n0 := n0) (K.2.2.2.2.2.2.2.2) q1.2 o13 (3 : Int32) i6 i10 g2) pd_2 rfl at_228 rfl rfl (by decide) (w := 0) (Nat.le_of_eq rfl) (by decide) (show cells + 0 ≤ 16 by omega) (show slots + 0 ≤ 128 by omega) rfl rfl rfl rfl (fun T2 X2 => ?_)
    by_cases hc231 : q2.1 = (0 : Int32)
    · rw [if_pos hc231] at hf
      refine i_ifYes (pc' := 264) K X2 at_231 (teq hc231).1 (by decide) (by decide) ?_
      exact w0_264 K sep X2 i0 i1 i2 i3 i4 i5 i6 i7 i8 i9 i10 i11 i12 o13 i14 i15 (show cells + 0 ≤ 16 by omega) (show slots + 0 ≤ 128 by omega) hf
    · rw [if_neg hc231] at hf
      refine i_ifNo (pc' := 234) K X2 at_231 rfl (feq hc231).1 ?_
      refine i_aload (pc' := 236) K X2 at_234 rfl rfl rfl ?_
      refine i_iconst (pc' := 237) (v := (4 : Int32)) K X2 at_236 rfl rfl ?_
      refine i_iload (pc' := 239) K X2 at_237 rfl rfl ?_
      refine i_iload (pc' := 241) K X2 at_239 rfl rfl ?_
      obtain ⟨q3, g3, hf⟩ := bs hf
      refine calls (pc' := 244) (kc := cells) (ks := slots) (S' := [(.int q3.1)]) (st := []) K X2 (i1 := 7) rfl (i2 := 8) rfl (i3 := 9) rfl (i4 := 10) rfl (by decide) (rm2 (l := l) (n0 := n0) (K.2.2.2.2.2.2.2.2) q2.2 o13 (4 : Int32) i6 i11 g3) pd_2 rfl at_241 rfl rfl (by decide) (w := 0) (Nat.le_of_eq rfl) (by decide) (show cells + 0 ≤ 16 by omega) (show slots + 0 ≤ 128 by omega) rfl rfl rfl rfl (fun T3 X3 => ?_)
      by_cases hc244 : q3.1 = (0 : Int32)
      · rw [if_pos hc244] at hf
        refine i_ifYes (pc' := 264) K X3 at_244 (teq hc244).1 (by decide) (by decide) ?_
        exact w0_264 K sep X3 i0 i1 i2 i3 i4 i5 i6 i7 i8 i9 i10 i11 i12 o13 i14 i15 (show cells + 0 ≤ 16 by omega) (show slots + 0 ≤ 128 by omega) hf
      · rw [if_neg hc244] at hf
        refine i_ifNo (pc' := 247) K X3 at_244 rfl (feq hc244).1 ?_
        exact w0_247 K sep X3 i0 i1 i2 i3 i4 i5 i6 i7 i8 i9 i10 i11 i12 o13 i14 i15 (show cells + 0 ≤ 16 by omega) (show slots + 0 ≤ 128 by omega) hf
def f0_175 (A : AH) (i5 : Int32) (i6 : Int32) (i7 : Int32) (i8 : Int32) (i9 : Int32) (i10 : Int32) (i11 : Int32) (i12 : Int32) (o13 : Nat) (s0 : Int32) : Option (Int32 × AH) :=
  if s0 = i5 then ((f2_0 A o13 (0 : Int32) i6 i7).bind fun q1 =>
  if q1.1 = (0 : Int32) then (f0_264 q1.2 )
  else ((f2_0 q1.2 o13 (1 : Int32) i6 i8).bind fun q2 =>
  if q2.1 = (0 : Int32) then (f0_264 q2.2 )
  else (f0_211 q2.2 i6 i9 i10 i11 i12 o13 (2 : Int32) o13)))
  else (some ((nar .boolean (0 : Int32)), A))
set_option maxRecDepth 65536 in
set_option maxHeartbeats 4000000 in
theorem w0_175 (K : Cx p l e room_1 s m meth c Z a0 tables_1 "com/example/cordel/cordel/PayloadWriterWriteTwoDigitsPinLaw" "law" code maxLocals ret) (sep : ∀ t, Sep Z (own_D t).2) (X : On p l e room_1 s m args below meth c own_D Z n0 T A cells slots) (i0 : Int32) (i1 : Int32) (i2 : Int32) (i3 : Int32) (i4 : Int32) (i5 : Int32) (i6 : Int32) (i7 : Int32) (i8 : Int32) (i9 : Int32) (i10 : Int32) (i11 : Int32) (i12 : Int32) (o13 : Nat) (i14 : Int32) (i15 : Int32) (s0 : Int32) (hc : cells + 0 ≤ 16) (hs : slots + 0 ≤ 128) {q : Int32 × AH} (hf : f0_175 A i5 i6 i7 i8 i9 i10 i11 i12 o13 s0 = some q) :
    Go p e below (T.setTop (mkF m 175 #[.val (.int i0), .val (.int i1), .val (.int i2), .val (.int i3), .val (.int i4), .val (.int i5), .val (.int i6), .val (.int i7), .val (.int i8), .val (.int i9), .val (.int i10), .val (.int i11), .val (.int i12), .val (.ref (n0 + o13)), .val (.int i14), .val (.int i15)] [(.int s0)])) (Fini own_D Z n0 s room_1 (some (.int q.1)) q.2) := by
  unfold f0_175 at hf
  refine i_iload (pc' := 177) K X at_175 rfl rfl ?_
  by_cases hc177 : s0 = i5
  · rw [if_pos hc177] at hf
    refine i_icmpYes (pc' := 182) K X at_177 (teq hc177).1 (by decide) (by decide) ?_
    refine i_aload (pc' := 184) K X at_182 rfl rfl rfl ?_
    refine i_iconst (pc' := 185) (v := (0 : Int32)) K X at_184 rfl rfl ?_
    refine i_iload (pc' := 187) K X at_185 rfl rfl ?_
    refine i_iload (pc' := 189) K X at_187 rfl rfl ?_
    obtain ⟨q1, g1, hf⟩ := bs hf
    refine calls (pc' := 192) (kc := cells) (ks := slots) (S' := [(.int q1.1)]) (st := []) K X (i1 := 7) rfl (i2 := 8) rfl (i3 := 9) rfl (i4 := 10) rfl (by decide) (rm2 (l := l) (n0 := n0) (K.2.2.2.2.2.2.2.2) A o13 (0 : Int32) i6 i7 g1) pd_2 rfl at_189 rfl rfl (by decide) (w := 0) (Nat.le_of_eq rfl) (by decide) (show cells + 0 ≤ 16 by omega) (show slots + 0 ≤ 128 by omega) rfl rfl rfl rfl (fun T1 X1 => ?_)
    by_cases hc192 : q1.1 = (0 : Int32)
    · rw [if_pos hc192] at hf
      refine i_ifYes (pc' := 264) K X1 at_192 (teq hc192).1 (by decide) (by decide) ?_
      exact w0_264 K sep X1 i0 i1 i2 i3 i4 i5 i6 i7 i8 i9 i10 i11 i12 o13 i14 i15 (show cells + 0 ≤ 16 by omega) (show slots + 0 ≤ 128 by omega) hf
    · rw [if_neg hc192] at hf
      refine i_ifNo (pc' := 195) K X1 at_192 rfl (feq hc192).1 ?_
      refine i_aload (pc' := 197) K X1 at_195 rfl rfl rfl ?_
      refine i_iconst (pc' := 198) (v := (1 : Int32)) K X1 at_197 rfl rfl ?_
      refine i_iload (pc' := 200) K X1 at_198 rfl rfl ?_
      refine i_iload (pc' := 202) K X1 at_200 rfl rfl ?_
      obtain ⟨q2, g2, hf⟩ := bs hf
      refine calls (pc' := 205) (kc := cells) (ks := slots) (S' := [(.int q2.1)]) (st := []) K X1 (i1 := 7) rfl (i2 := 8) rfl (i3 := 9) rfl (i4 := 10) rfl (by decide) (rm2 (l := l) (n0 := n0) (K.2.2.2.2.2.2.2.2) q1.2 o13 (1 : Int32) i6 i8 g2) pd_2 rfl at_202 rfl rfl (by decide) (w := 0) (Nat.le_of_eq rfl) (by decide) (show cells + 0 ≤ 16 by omega) (show slots + 0 ≤ 128 by omega) rfl rfl rfl rfl (fun T2 X2 => ?_)
      by_cases hc205 : q2.1 = (0 : Int32)
      · rw [if_pos hc205] at hf
        refine i_ifYes (pc' := 264) K X2 at_205 (teq hc205).1 (by decide) (by decide) ?_
        exact w0_264 K sep X2 i0 i1 i2 i3 i4 i5 i6 i7 i8 i9 i10 i11 i12 o13 i14 i15 (show cells + 0 ≤ 16 by omega) (show slots + 0 ≤ 128 by omega) hf
      · rw [if_neg hc205] at hf
        refine i_ifNo (pc' := 208) K X2 at_205 rfl (feq hc205).1 ?_
        refine i_aload (pc' := 210) K X2 at_208 rfl rfl rfl ?_
        refine i_iconst (pc' := 211) (v := (2 : Int32)) K X2 at_210 rfl rfl ?_
        exact w0_211 K sep X2 i0 i1 i2 i3 i4 i5 i6 i7 i8 i9 i10 i11 i12 o13 i14 i15 (2 : Int32) o13 (show cells + 0 ≤ 16 by omega) (show slots + 0 ≤ 128 by omega) hf
  · rw [if_neg hc177] at hf
    refine i_icmpNo (pc' := 180) K X at_177 rfl (feq hc177).1 ?_
    refine i_iconst (pc' := 181) (v := (0 : Int32)) K X at_180 rfl rfl ?_
    cases hf
    exact retB K (by simp) X (show cells ≤ 16 by omega) (show slots ≤ 128 by omega) at_181
def f0_145 (A : AH) (i5 : Int32) (i6 : Int32) (i7 : Int32) (i8 : Int32) (i9 : Int32) (i10 : Int32) (i11 : Int32) (i12 : Int32) (o13 : Nat) (i14 : Int32) (i15 : Int32) : Option (Int32 × AH) :=
  if i15 < (48 : Int32) then (f0_159 A )
  else (if (57 : Int32) < i15 then (f0_159 A )
  else (f0_175 A i5 i6 i7 i8 i9 i10 i11 i12 o13 (((i14 - (48 : Int32)) * (10 : Int32)) + (i15 - (48 : Int32)))))
set_option maxRecDepth 65536 in
set_option maxHeartbeats 4000000 in
theorem w0_145 (K : Cx p l e room_1 s m meth c Z a0 tables_1 "com/example/cordel/cordel/PayloadWriterWriteTwoDigitsPinLaw" "law" code maxLocals ret) (sep : ∀ t, Sep Z (own_D t).2) (X : On p l e room_1 s m args below meth c own_D Z n0 T A cells slots) (i0 : Int32) (i1 : Int32) (i2 : Int32) (i3 : Int32) (i4 : Int32) (i5 : Int32) (i6 : Int32) (i7 : Int32) (i8 : Int32) (i9 : Int32) (i10 : Int32) (i11 : Int32) (i12 : Int32) (o13 : Nat) (i14 : Int32) (i15 : Int32) (hc : cells + 0 ≤ 16) (hs : slots + 0 ≤ 128) {q : Int32 × AH} (hf : f0_145 A i5 i6 i7 i8 i9 i10 i11 i12 o13 i14 i15 = some q) :
    Go p e below (T.setTop (mkF m 145 #[.val (.int i0), .val (.int i1), .val (.int i2), .val (.int i3), .val (.int i4), .val (.int i5), .val (.int i6), .val (.int i7), .val (.int i8), .val (.int i9), .val (.int i10), .val (.int i11), .val (.int i12), .val (.ref (n0 + o13)), .val (.int i14), .val (.int i15)] [])) (Fini own_D Z n0 s room_1 (some (.int q.1)) q.2) := by
  unfold f0_145 at hf
  refine i_iload (pc' := 147) K X at_145 rfl rfl ?_
  refine i_bipush (pc' := 149) (v := (48 : Int32)) K X at_147 rfl rfl ?_
  by_cases hc149 : i15 < (48 : Int32)
  · rw [if_pos hc149] at hf
    refine i_icmpYes (pc' := 159) K X at_149 (tlt hc149).1 (by decide) (by decide) ?_
    exact w0_159 K sep X i0 i1 i2 i3 i4 i5 i6 i7 i8 i9 i10 i11 i12 o13 i14 i15 (show cells + 0 ≤ 16 by omega) (show slots + 0 ≤ 128 by omega) hf
  · rw [if_neg hc149] at hf
    refine i_icmpNo (pc' := 152) K X at_149 rfl (flt hc149).1 ?_
    refine i_iload (pc' := 154) K X at_152 rfl rfl ?_
    refine i_bipush (pc' := 156) (v := (57 : Int32)) K X at_154 rfl rfl ?_
    by_cases hc156 : (57 : Int32) < i15
    · rw [if_pos hc156] at hf
      refine i_icmpNo (pc' := 159) K X at_156 rfl (tlt hc156).2.2.2 ?_
      exact w0_159 K sep X i0 i1 i2 i3 i4 i5 i6 i7 i8 i9 i10 i11 i12 o13 i14 i15 (show cells + 0 ≤ 16 by omega) (show slots + 0 ≤ 128 by omega) hf
    · rw [if_neg hc156] at hf
      refine i_icmpYes (pc' := 161) K X at_156 (flt hc156).2.2.2 (by decide) (by decide) ?_
      refine i_iload (pc' := 163) K X at_161 rfl rfl ?_
      refine i_bipush (pc' := 165) (v := (48 : Int32)) K X at_163 rfl rfl ?_
      refine i_isub (pc' := 166) K X at_165 rfl ?_
      refine i_bipush (pc' := 168) (v := (10 : Int32)) K X at_166 rfl rfl ?_
      refine i_imul (pc' := 169) K X at_168 rfl ?_
      refine i_iload (pc' := 171) K X at_169 rfl rfl ?_
      refine i_bipush (pc' := 173) (v := (48 : Int32)) K X at_171 rfl rfl ?_
      refine i_isub (pc' := 174) K X at_173 rfl ?_
      refine i_iadd (pc' := 175) K X at_174 rfl ?_
      exact w0_175 K sep X i0 i1 i2 i3 i4 i5 i6 i7 i8 i9 i10 i11 i12 o13 i14 i15 (((i14 - (48 : Int32)) * (10 : Int32)) + (i15 - (48 : Int32))) (show cells + 0 ≤ 16 by omega) (show slots + 0 ≤ 128 by omega) hf
def f0_115 (A : AH) (i5 : Int32) (i6 : Int32) (i7 : Int32) (i8 : Int32) (i9 : Int32) (i10 : Int32) (i11 : Int32) (i12 : Int32) (o13 : Nat) : Option (Int32 × AH) :=
  (asI (h_aget A 1 o13 i6)).bind fun v1 =>
  (asI (h_aget A 1 o13 (i6 + (1 : Int32)))).bind fun v2 =>
  if v1 < (48 : Int32) then (f0_159 A )
  else (if (57 : Int32) < v1 then (f0_159 A )
  else (f0_145 A i5 i6 i7 i8 i9 i10 i11 i12 o13 v1 v2))
set_option maxRecDepth 65536 in
set_option maxHeartbeats 4000000 in
theorem w0_115 (K : Cx p l e room_1 s m meth c Z a0 tables_1 "com/example/cordel/cordel/PayloadWriterWriteTwoDigitsPinLaw" "law" code maxLocals ret) (sep : ∀ t, Sep Z (own_D t).2) (X : On p l e room_1 s m args below meth c own_D Z n0 T A cells slots) (i0 : Int32) (i1 : Int32) (i2 : Int32) (i3 : Int32) (i4 : Int32) (i5 : Int32) (i6 : Int32) (i7 : Int32) (i8 : Int32) (i9 : Int32) (i10 : Int32) (i11 : Int32) (i12 : Int32) (o13 : Nat) (hc : cells + 0 ≤ 16) (hs : slots + 0 ≤ 128) {q : Int32 × AH} (hf : f0_115 A i5 i6 i7 i8 i9 i10 i11 i12 o13 = some q) :
    Go p e below (T.setTop (mkF m 115 #[.val (.int i0), .val (.int i1), .val (.int i2), .val (.int i3), .val (.int i4), .val (.int i5), .val (.int i6), .val (.int i7), .val (.int i8), .val (.int i9), .val (.int i10), .val (.int i11), .val (.int i12), .val (.ref (n0 + o13)), .unset, .unset] [])) (Fini own_D Z n0 s room_1 (some (.int q.1)) q.2) := by
  unfold f0_115 at hf
  refine i_aload (pc' := 117) K X at_115 rfl rfl rfl ?_
  refine i_iload (pc' := 119) K X at_117 rfl rfl ?_
  obtain ⟨v1, g1, hf⟩ := bs hf
  refine ld1 (pc' := 120) K X g1 at_119 rfl ?_
  refine i_istore (pc' := 122) (Ls' := #[.val (.int i0), .val (.int i1), .val (.int i2), .val (.int i3), .val (.int i4), .val (.int i5), .val (.int i6), .val (.int i7), .val (.int i8), .val (.int i9), .val (.int i10), .val (.int i11), .val (.int i12), .val (.ref (n0 + o13)), .val (.int v1), .unset]) K X at_120 rfl rfl ?_
  refine i_aload (pc' := 124) K X at_122 rfl rfl rfl ?_
  refine i_iload (pc' := 126) K X at_124 rfl rfl ?_
  refine i_iconst (pc' := 127) (v := (1 : Int32)) K X at_126 rfl rfl ?_
  refine i_iadd (pc' := 128) K X at_127 rfl ?_
  obtain ⟨v2, g2, hf⟩ := bs hf
  refine ld1 (pc' := 129) K X g2 at_128 rfl ?_
  refine i_istore (pc' := 131) (Ls' := #[.val (.int i0), .val (.int i1), .val (.int i2), .val (.int i3), .val (.int i4), .val (.int i5), .val (.int i6), .val (.int i7), .val (.int i8), .val (.int i9), .val (.int i10), .val (.int i11), .val (.int i12), .val (.ref (n0 + o13)), .val (.int v1), .val (.int v2)]) K X at_129 rfl rfl ?_
  refine i_iload (pc' := 133) K X at_131 rfl rfl ?_
  refine i_bipush (pc' := 135) (v := (48 : Int32)) K X at_133 rfl rfl ?_
  by_cases hc135 : v1 < (48 : Int32)
  · rw [if_pos hc135] at hf
    refine i_icmpYes (pc' := 159) K X at_135 (tlt hc135).1 (by decide) (by decide) ?_
    exact w0_159 K sep X i0 i1 i2 i3 i4 i5 i6 i7 i8 i9 i10 i11 i12 o13 v1 v2 (show cells + 0 ≤ 16 by omega) (show slots + 0 ≤ 128 by omega) hf
  · rw [if_neg hc135] at hf
    refine i_icmpNo (pc' := 138) K X at_135 rfl (flt hc135).1 ?_
    refine i_iload (pc' := 140) K X at_138 rfl rfl ?_
    refine i_bipush (pc' := 142) (v := (57 : Int32)) K X at_140 rfl rfl ?_
    by_cases hc142 : (57 : Int32) < v1
    · rw [if_pos hc142] at hf
      refine i_icmpYes (pc' := 159) K X at_142 (tlt hc142).2.2.1 (by decide) (by decide) ?_
      exact w0_159 K sep X i0 i1 i2 i3 i4 i5 i6 i7 i8 i9 i10 i11 i12 o13 v1 v2 (show cells + 0 ≤ 16 by omega) (show slots + 0 ≤ 128 by omega) hf
    · rw [if_neg hc142] at hf
      refine i_icmpNo (pc' := 145) K X at_142 rfl (flt hc142).2.2.1 ?_
      exact w0_145 K sep X i0 i1 i2 i3 i4 i5 i6 i7 i8 i9 i10 i11 i12 o13 v1 v2 (show cells + 0 ≤ 16 by omega) (show slots + 0 ≤ 128 by omega) hf
def f0_90 (A : AH) (i5 : Int32) (i6 : Int32) (i7 : Int32) (i8 : Int32) (i9 : Int32) (i10 : Int32) (i11 : Int32) (i12 : Int32) (r0 : Nat) (r1 : Nat) : Option (Int32 × AH) :=
  (h_aset A 1 r0 (3 : Int32) (.int (nar .char i10))).bind fun A1 =>
  (h_aset A1 1 r1 (4 : Int32) (.int (nar .char i11))).bind fun A2 =>
  (h_aset A2 1 r1 (5 : Int32) (.int (nar .char i12))).bind fun A3 =>
  (f1_0 A3 r1 i6 i5).bind fun A4 =>
  f0_115 A4 i5 i6 i7 i8 i9 i10 i11 i12 r1
set_option maxRecDepth 65536 in
set_option maxHeartbeats 4000000 in
theorem w0_90 (K : Cx p l e room_1 s m meth c Z a0 tables_1 "com/example/cordel/cordel/PayloadWriterWriteTwoDigitsPinLaw" "law" code maxLocals ret) (sep : ∀ t, Sep Z (own_D t).2) (X : On p l e room_1 s m args below meth c own_D Z n0 T A cells slots) (i0 : Int32) (i1 : Int32) (i2 : Int32) (i3 : Int32) (i4 : Int32) (i5 : Int32) (i6 : Int32) (i7 : Int32) (i8 : Int32) (i9 : Int32) (i10 : Int32) (i11 : Int32) (i12 : Int32) (r0 : Nat) (r1 : Nat) (hc : cells + 0 ≤ 16) (hs : slots + 0 ≤ 128) {q : Int32 × AH} (hf : f0_90 A i5 i6 i7 i8 i9 i10 i11 i12 r0 r1 = some q) :
    Go p e below (T.setTop (mkF m 90 #[.val (.int i0), .val (.int i1), .val (.int i2), .val (.int i3), .val (.int i4), .val (.int i5), .val (.int i6), .val (.int i7), .val (.int i8), .val (.int i9), .val (.int i10), .val (.int i11), .val (.int i12), .unset, .unset, .unset] [(.ref (n0 + r0)), (.ref (n0 + r1))])) (Fini own_D Z n0 s room_1 (some (.int q.1)) q.2) := by
  unfold f0_90 at hf
  refine i_iconst (pc' := 91) (v := (3 : Int32)) K X at_90 rfl rfl ?_
  refine i_iload (pc' := 93) K X at_91 rfl rfl ?_
  obtain ⟨A1, g1, hf⟩ := bs hf
  refine ast1 (pc' := 94) K X g1 at_93 rfl (fun T1 X1 => ?_)
  refine i_dup (pc' := 95) K X1 at_94 rfl rfl ?_
  refine i_iconst (pc' := 96) (v := (4 : Int32)) K X1 at_95 rfl rfl ?_
  refine i_iload (pc' := 98) K X1 at_96 rfl rfl ?_
  obtain ⟨A2, g2, hf⟩ := bs hf
  refine ast1 (pc' := 99) K X1 g2 at_98 rfl (fun T2 X2 => ?_)
  refine i_dup (pc' := 100) K X2 at_99 rfl rfl ?_
  refine i_iconst (pc' := 101) (v := (5 : Int32)) K X2 at_100 rfl rfl ?_
  refine i_iload (pc' := 103) K X2 at_101 rfl rfl ?_
  obtain ⟨A3, g3, hf⟩ := bs hf
  refine ast1 (pc' := 104) K X2 g3 at_103 rfl (fun T3 X3 => ?_)
  refine i_astore (pc' := 106) (Ls' := #[.val (.int i0), .val (.int i1), .val (.int i2), .val (.int i3), .val (.int i4), .val (.int i5), .val (.int i6), .val (.int i7), .val (.int i8), .val (.int i9), .val (.int i10), .val (.int i11), .val (.int i12), .val (.ref (n0 + r1)), .unset, .unset]) K X3 at_104 rfl rfl rfl ?_
  refine i_aload (pc' := 108) K X3 at_106 rfl rfl rfl ?_
  refine i_iload (pc' := 110) K X3 at_108 rfl rfl ?_
  refine i_iload (pc' := 112) K X3 at_110 rfl rfl ?_
  obtain ⟨A4, g4, hf⟩ := bs hf
  refine calls (pc' := 115) (kc := cells) (ks := slots) (S' := []) (st := []) K X3 (i1 := 3) rfl (i2 := 4) rfl (i3 := 5) rfl (i4 := 6) rfl (by decide) (rm1 (l := l) (n0 := n0) (K.2.2.2.2.2.2.2.2) A3 r1 i6 i5 g4) pd_1 rfl at_112 rfl rfl (by decide) (w := 0) (Nat.le_of_eq rfl) (by decide) (show cells + 0 ≤ 16 by omega) (show slots + 0 ≤ 128 by omega) rfl rfl rfl rfl (fun T4 X4 => ?_)
  exact w0_115 K sep X4 i0 i1 i2 i3 i4 i5 i6 i7 i8 i9 i10 i11 i12 r1 (show cells + 0 ≤ 16 by omega) (show slots + 0 ≤ 128 by omega) hf
def f0_68 (A : AH) (i5 : Int32) (i6 : Int32) (i7 : Int32) (i8 : Int32) (i9 : Int32) (i10 : Int32) (i11 : Int32) (s0 : Int32) : Option (Int32 × AH) :=
  (h_anew A 1 6 (6 : Int32) (.int 0)).bind fun q1 =>
  (h_aset q1.2 1 q1.1 (0 : Int32) (.int (nar .char i7))).bind fun A2 =>
  (h_aset A2 1 q1.1 (1 : Int32) (.int (nar .char i8))).bind fun A3 =>
  (h_aset A3 1 q1.1 (2 : Int32) (.int (nar .char i9))).bind fun A4 =>
  f0_90 A4 i5 i6 i7 i8 i9 i10 i11 s0 q1.1 q1.1
set_option maxRecDepth 65536 in
set_option maxHeartbeats 4000000 in
theorem w0_68 (K : Cx p l e room_1 s m meth c Z a0 tables_1 "com/example/cordel/cordel/PayloadWriterWriteTwoDigitsPinLaw" "law" code maxLocals ret) (sep : ∀ t, Sep Z (own_D t).2) (X : On p l e room_1 s m args below meth c own_D Z n0 T A cells slots) (i0 : Int32) (i1 : Int32) (i2 : Int32) (i3 : Int32) (i4 : Int32) (i5 : Int32) (i6 : Int32) (i7 : Int32) (i8 : Int32) (i9 : Int32) (i10 : Int32) (i11 : Int32) (s0 : Int32) (hc : cells + 1 ≤ 16) (hs : slots + 6 ≤ 128) {q : Int32 × AH} (hf : f0_68 A i5 i6 i7 i8 i9 i10 i11 s0 = some q) :
    Go p e below (T.setTop (mkF m 68 #[.val (.int i0), .val (.int i1), .val (.int i2), .val (.int i3), .val (.int i4), .val (.int i5), .val (.int i6), .val (.int i7), .val (.int i8), .val (.int i9), .val (.int i10), .val (.int i11), .unset, .unset, .unset, .unset] [(.int s0)])) (Fini own_D Z n0 s room_1 (some (.int q.1)) q.2) := by
  unfold f0_68 at hf
  refine i_istore (pc' := 70) (Ls' := #[.val (.int i0), .val (.int i1), .val (.int i2), .val (.int i3), .val (.int i4), .val (.int i5), .val (.int i6), .val (.int i7), .val (.int i8), .val (.int i9), .val (.int i10), .val (.int i11), .val (.int s0), .unset, .unset, .unset]) K X at_68 rfl rfl ?_
  refine i_bipush (pc' := 72) (v := (6 : Int32)) K X at_70 rfl rfl ?_
  obtain ⟨q1, g1, hf⟩ := bs hf
  refine newa (pc' := 74) K X (i1 := 2) (at' := .char) rfl at_72 (t := 1) (cap := 6) (by decide) (show cells + 1 ≤ 16 by omega) (show slots + 6 ≤ 128 by omega) (by decide) rfl rfl g1 rfl (fun T1 X1 => ?_)
  refine i_dup (pc' := 75) K X1 at_74 rfl rfl ?_
  refine i_iconst (pc' := 76) (v := (0 : Int32)) K X1 at_75 rfl rfl ?_
  refine i_iload (pc' := 78) K X1 at_76 rfl rfl ?_
  obtain ⟨A2, g2, hf⟩ := bs hf
  refine ast1 (pc' := 79) K X1 g2 at_78 rfl (fun T2 X2 => ?_)
  refine i_dup (pc' := 80) K X2 at_79 rfl rfl ?_
  refine i_iconst (pc' := 81) (v := (1 : Int32)) K X2 at_80 rfl rfl ?_
  refine i_iload (pc' := 83) K X2 at_81 rfl rfl ?_
  obtain ⟨A3, g3, hf⟩ := bs hf
  refine ast1 (pc' := 84) K X2 g3 at_83 rfl (fun T3 X3 => ?_)
  refine i_dup (pc' := 85) K X3 at_84 rfl rfl ?_
  refine i_iconst (pc' := 86) (v := (2 : Int32)) K X3 at_85 rfl rfl ?_
  refine i_iload (pc' := 88) K X3 at_86 rfl rfl ?_
  obtain ⟨A4, g4, hf⟩ := bs hf
  refine ast1 (pc' := 89) K X3 g4 at_88 rfl (fun T4 X4 => ?_)
  refine i_dup (pc' := 90) K X4 at_89 rfl rfl ?_
  exact w0_90 K sep X4 i0 i1 i2 i3 i4 i5 i6 i7 i8 i9 i10 i11 s0 q1.1 q1.1 (show cells + 1 + 0 ≤ 16 by omega) (show slots + 6 + 0 ≤ 128 by omega) hf
def f0_64 (A : AH) (i5 : Int32) (i6 : Int32) (i7 : Int32) (i8 : Int32) (i9 : Int32) (i10 : Int32) (i11 : Int32) (s0 : Int32) : Option (Int32 × AH) :=
  f0_68 A i5 i6 i7 i8 i9 i10 i11 (((s0 &&& (65535 : Int32))).toUInt32.toUInt16.toUInt32.toInt32)
set_option maxRecDepth 65536 in
set_option maxHeartbeats 4000000 in
theorem w0_64 (K : Cx p l e room_1 s m meth c Z a0 tables_1 "com/example/cordel/cordel/PayloadWriterWriteTwoDigitsPinLaw" "law" code maxLocals ret) (sep : ∀ t, Sep Z (own_D t).2) (X : On p l e room_1 s m args below meth c own_D Z n0 T A cells slots) (i0 : Int32) (i1 : Int32) (i2 : Int32) (i3 : Int32) (i4 : Int32) (i5 : Int32) (i6 : Int32) (i7 : Int32) (i8 : Int32) (i9 : Int32) (i10 : Int32) (i11 : Int32) (s0 : Int32) (hc : cells + 1 ≤ 16) (hs : slots + 6 ≤ 128) {q : Int32 × AH} (hf : f0_64 A i5 i6 i7 i8 i9 i10 i11 s0 = some q) :
    Go p e below (T.setTop (mkF m 64 #[.val (.int i0), .val (.int i1), .val (.int i2), .val (.int i3), .val (.int i4), .val (.int i5), .val (.int i6), .val (.int i7), .val (.int i8), .val (.int i9), .val (.int i10), .val (.int i11), .unset, .unset, .unset, .unset] [(.int s0)])) (Fini own_D Z n0 s room_1 (some (.int q.1)) q.2) := by
  unfold f0_64 at hf
  refine ldcI (pc' := 66) (v := (65535 : Int32)) K X (i := 1) rfl at_64 rfl ?_
  refine i_iand (pc' := 67) K X at_66 rfl ?_
  refine i_i2c (pc' := 68) K X at_67 rfl ?_
  exact w0_68 K sep X i0 i1 i2 i3 i4 i5 i6 i7 i8 i9 i10 i11 (((s0 &&& (65535 : Int32))).toUInt32.toUInt16.toUInt32.toInt32) (show cells + 1 ≤ 16 by omega) (show slots + 6 ≤ 128 by omega) hf
def f0_57 (A : AH) (i4 : Int32) (i5 : Int32) (i6 : Int32) (i7 : Int32) (i8 : Int32) (i9 : Int32) (i10 : Int32) (s0 : Int32) : Option (Int32 × AH) :=
  f0_64 A i5 i6 i7 i8 i9 i10 s0 (((i4).toUInt32 >>> ((16 : Int32) &&& 31).toUInt32).toInt32)
set_option maxRecDepth 65536 in
set_option maxHeartbeats 4000000 in
theorem w0_57 (K : Cx p l e room_1 s m meth c Z a0 tables_1 "com/example/cordel/cordel/PayloadWriterWriteTwoDigitsPinLaw" "law" code maxLocals ret) (sep : ∀ t, Sep Z (own_D t).2) (X : On p l e room_1 s m args below meth c own_D Z n0 T A cells slots) (i0 : Int32) (i1 : Int32) (i2 : Int32) (i3 : Int32) (i4 : Int32) (i5 : Int32) (i6 : Int32) (i7 : Int32) (i8 : Int32) (i9 : Int32) (i10 : Int32) (s0 : Int32) (hc : cells + 1 ≤ 16) (hs : slots + 6 ≤ 128) {q : Int32 × AH} (hf : f0_57 A i4 i5 i6 i7 i8 i9 i10 s0 = some q) :
    Go p e below (T.setTop (mkF m 57 #[.val (.int i0), .val (.int i1), .val (.int i2), .val (.int i3), .val (.int i4), .val (.int i5), .val (.int i6), .val (.int i7), .val (.int i8), .val (.int i9), .val (.int i10), .unset, .unset, .unset, .unset, .unset] [(.int s0)])) (Fini own_D Z n0 s room_1 (some (.int q.1)) q.2) := by
  unfold f0_57 at hf
  refine i_istore (pc' := 59) (Ls' := #[.val (.int i0), .val (.int i1), .val (.int i2), .val (.int i3), .val (.int i4), .val (.int i5), .val (.int i6), .val (.int i7), .val (.int i8), .val (.int i9), .val (.int i10), .val (.int s0), .unset, .unset, .unset, .unset]) K X at_57 rfl rfl ?_
  refine i_iload (pc' := 61) K X at_59 rfl rfl ?_
  refine i_bipush (pc' := 63) (v := (16 : Int32)) K X at_61 rfl rfl ?_
  refine i_iushr (pc' := 64) K X at_63 rfl ?_
  exact w0_64 K sep X i0 i1 i2 i3 i4 i5 i6 i7 i8 i9 i10 s0 (((i4).toUInt32 >>> ((16 : Int32) &&& 31).toUInt32).toInt32) (show cells + 1 ≤ 16 by omega) (show slots + 6 ≤ 128 by omega) hf
def f0_49 (A : AH) (i4 : Int32) (i5 : Int32) (i6 : Int32) (i7 : Int32) (i8 : Int32) (i9 : Int32) (s0 : Int32) : Option (Int32 × AH) :=
  f0_57 A i4 i5 i6 i7 i8 i9 s0 (((i4 &&& (65535 : Int32))).toUInt32.toUInt16.toUInt32.toInt32)
set_option maxRecDepth 65536 in
set_option maxHeartbeats 4000000 in
theorem w0_49 (K : Cx p l e room_1 s m meth c Z a0 tables_1 "com/example/cordel/cordel/PayloadWriterWriteTwoDigitsPinLaw" "law" code maxLocals ret) (sep : ∀ t, Sep Z (own_D t).2) (X : On p l e room_1 s m args below meth c own_D Z n0 T A cells slots) (i0 : Int32) (i1 : Int32) (i2 : Int32) (i3 : Int32) (i4 : Int32) (i5 : Int32) (i6 : Int32) (i7 : Int32) (i8 : Int32) (i9 : Int32) (s0 : Int32) (hc : cells + 1 ≤ 16) (hs : slots + 6 ≤ 128) {q : Int32 × AH} (hf : f0_49 A i4 i5 i6 i7 i8 i9 s0 = some q) :
    Go p e below (T.setTop (mkF m 49 #[.val (.int i0), .val (.int i1), .val (.int i2), .val (.int i3), .val (.int i4), .val (.int i5), .val (.int i6), .val (.int i7), .val (.int i8), .val (.int i9), .unset, .unset, .unset, .unset, .unset, .unset] [(.int s0)])) (Fini own_D Z n0 s room_1 (some (.int q.1)) q.2) := by
  unfold f0_49 at hf
  refine i_istore (pc' := 51) (Ls' := #[.val (.int i0), .val (.int i1), .val (.int i2), .val (.int i3), .val (.int i4), .val (.int i5), .val (.int i6), .val (.int i7), .val (.int i8), .val (.int i9), .val (.int s0), .unset, .unset, .unset, .unset, .unset]) K X at_49 rfl rfl ?_
  refine i_iload (pc' := 53) K X at_51 rfl rfl ?_
  refine ldcI (pc' := 55) (v := (65535 : Int32)) K X (i := 1) rfl at_53 rfl ?_
  refine i_iand (pc' := 56) K X at_55 rfl ?_
  refine i_i2c (pc' := 57) K X at_56 rfl ?_
  exact w0_57 K sep X i0 i1 i2 i3 i4 i5 i6 i7 i8 i9 s0 (((i4 &&& (65535 : Int32))).toUInt32.toUInt16.toUInt32.toInt32) (show cells + 1 ≤ 16 by omega) (show slots + 6 ≤ 128 by omega) hf
def f0_45 (A : AH) (i4 : Int32) (i5 : Int32) (i6 : Int32) (i7 : Int32) (i8 : Int32) (i9 : Int32) (s0 : Int32) : Option (Int32 × AH) :=
  f0_49 A i4 i5 i6 i7 i8 i9 (((s0 &&& (65535 : Int32))).toUInt32.toUInt16.toUInt32.toInt32)
set_option maxRecDepth 65536 in
set_option maxHeartbeats 4000000 in
theorem w0_45 (K : Cx p l e room_1 s m meth c Z a0 tables_1 "com/example/cordel/cordel/PayloadWriterWriteTwoDigitsPinLaw" "law" code maxLocals ret) (sep : ∀ t, Sep Z (own_D t).2) (X : On p l e room_1 s m args below meth c own_D Z n0 T A cells slots) (i0 : Int32) (i1 : Int32) (i2 : Int32) (i3 : Int32) (i4 : Int32) (i5 : Int32) (i6 : Int32) (i7 : Int32) (i8 : Int32) (i9 : Int32) (s0 : Int32) (hc : cells + 1 ≤ 16) (hs : slots + 6 ≤ 128) {q : Int32 × AH} (hf : f0_45 A i4 i5 i6 i7 i8 i9 s0 = some q) :
    Go p e below (T.setTop (mkF m 45 #[.val (.int i0), .val (.int i1), .val (.int i2), .val (.int i3), .val (.int i4), .val (.int i5), .val (.int i6), .val (.int i7), .val (.int i8), .val (.int i9), .unset, .unset, .unset, .unset, .unset, .unset] [(.int s0)])) (Fini own_D Z n0 s room_1 (some (.int q.1)) q.2) := by
  unfold f0_45 at hf
  refine ldcI (pc' := 47) (v := (65535 : Int32)) K X (i := 1) rfl at_45 rfl ?_
  refine i_iand (pc' := 48) K X at_47 rfl ?_
  refine i_i2c (pc' := 49) K X at_48 rfl ?_
  exact w0_49 K sep X i0 i1 i2 i3 i4 i5 i6 i7 i8 i9 (((s0 &&& (65535 : Int32))).toUInt32.toUInt16.toUInt32.toInt32) (show cells + 1 ≤ 16 by omega) (show slots + 6 ≤ 128 by omega) hf
def f0_39 (A : AH) (i3 : Int32) (i4 : Int32) (i5 : Int32) (i6 : Int32) (i7 : Int32) (i8 : Int32) (s0 : Int32) : Option (Int32 × AH) :=
  f0_45 A i4 i5 i6 i7 i8 s0 (((i3).toUInt32 >>> ((16 : Int32) &&& 31).toUInt32).toInt32)
set_option maxRecDepth 65536 in
set_option maxHeartbeats 4000000 in
theorem w0_39 (K : Cx p l e room_1 s m meth c Z a0 tables_1 "com/example/cordel/cordel/PayloadWriterWriteTwoDigitsPinLaw" "law" code maxLocals ret) (sep : ∀ t, Sep Z (own_D t).2) (X : On p l e room_1 s m args below meth c own_D Z n0 T A cells slots) (i0 : Int32) (i1 : Int32) (i2 : Int32) (i3 : Int32) (i4 : Int32) (i5 : Int32) (i6 : Int32) (i7 : Int32) (i8 : Int32) (s0 : Int32) (hc : cells + 1 ≤ 16) (hs : slots + 6 ≤ 128) {q : Int32 × AH} (hf : f0_39 A i3 i4 i5 i6 i7 i8 s0 = some q) :
    Go p e below (T.setTop (mkF m 39 #[.val (.int i0), .val (.int i1), .val (.int i2), .val (.int i3), .val (.int i4), .val (.int i5), .val (.int i6), .val (.int i7), .val (.int i8), .unset, .unset, .unset, .unset, .unset, .unset, .unset] [(.int s0)])) (Fini own_D Z n0 s room_1 (some (.int q.1)) q.2) := by
  unfold f0_39 at hf
  refine i_istore (pc' := 41) (Ls' := #[.val (.int i0), .val (.int i1), .val (.int i2), .val (.int i3), .val (.int i4), .val (.int i5), .val (.int i6), .val (.int i7), .val (.int i8), .val (.int s0), .unset, .unset, .unset, .unset, .unset, .unset]) K X at_39 rfl rfl ?_
  refine i_iloadN (pc' := 42) K X at_41 rfl rfl ?_
  refine i_bipush (pc' := 44) (v := (16 : Int32)) K X at_42 rfl rfl ?_
  refine i_iushr (pc' := 45) K X at_44 rfl ?_
  exact w0_45 K sep X i0 i1 i2 i3 i4 i5 i6 i7 i8 s0 (((i3).toUInt32 >>> ((16 : Int32) &&& 31).toUInt32).toInt32) (show cells + 1 ≤ 16 by omega) (show slots + 6 ≤ 128 by omega) hf
def f0_32 (A : AH) (i3 : Int32) (i4 : Int32) (i5 : Int32) (i6 : Int32) (i7 : Int32) (s0 : Int32) : Option (Int32 × AH) :=
  f0_39 A i3 i4 i5 i6 i7 s0 (((i3 &&& (65535 : Int32))).toUInt32.toUInt16.toUInt32.toInt32)
set_option maxRecDepth 65536 in
set_option maxHeartbeats 4000000 in
theorem w0_32 (K : Cx p l e room_1 s m meth c Z a0 tables_1 "com/example/cordel/cordel/PayloadWriterWriteTwoDigitsPinLaw" "law" code maxLocals ret) (sep : ∀ t, Sep Z (own_D t).2) (X : On p l e room_1 s m args below meth c own_D Z n0 T A cells slots) (i0 : Int32) (i1 : Int32) (i2 : Int32) (i3 : Int32) (i4 : Int32) (i5 : Int32) (i6 : Int32) (i7 : Int32) (s0 : Int32) (hc : cells + 1 ≤ 16) (hs : slots + 6 ≤ 128) {q : Int32 × AH} (hf : f0_32 A i3 i4 i5 i6 i7 s0 = some q) :
    Go p e below (T.setTop (mkF m 32 #[.val (.int i0), .val (.int i1), .val (.int i2), .val (.int i3), .val (.int i4), .val (.int i5), .val (.int i6), .val (.int i7), .unset, .unset, .unset, .unset, .unset, .unset, .unset, .unset] [(.int s0)])) (Fini own_D Z n0 s room_1 (some (.int q.1)) q.2) := by
  unfold f0_32 at hf
  refine i_istore (pc' := 34) (Ls' := #[.val (.int i0), .val (.int i1), .val (.int i2), .val (.int i3), .val (.int i4), .val (.int i5), .val (.int i6), .val (.int i7), .val (.int s0), .unset, .unset, .unset, .unset, .unset, .unset, .unset]) K X at_32 rfl rfl ?_
  refine i_iloadN (pc' := 35) K X at_34 rfl rfl ?_
  refine ldcI (pc' := 37) (v := (65535 : Int32)) K X (i := 1) rfl at_35 rfl ?_
  refine i_iand (pc' := 38) K X at_37 rfl ?_
  refine i_i2c (pc' := 39) K X at_38 rfl ?_
  exact w0_39 K sep X i0 i1 i2 i3 i4 i5 i6 i7 s0 (((i3 &&& (65535 : Int32))).toUInt32.toUInt16.toUInt32.toInt32) (show cells + 1 ≤ 16 by omega) (show slots + 6 ≤ 128 by omega) hf
def f0_28 (A : AH) (i3 : Int32) (i4 : Int32) (i5 : Int32) (i6 : Int32) (i7 : Int32) (s0 : Int32) : Option (Int32 × AH) :=
  f0_32 A i3 i4 i5 i6 i7 (((s0 &&& (65535 : Int32))).toUInt32.toUInt16.toUInt32.toInt32)
set_option maxRecDepth 65536 in
set_option maxHeartbeats 4000000 in
theorem w0_28 (K : Cx p l e room_1 s m meth c Z a0 tables_1 "com/example/cordel/cordel/PayloadWriterWriteTwoDigitsPinLaw" "law" code maxLocals ret) (sep : ∀ t, Sep Z (own_D t).2) (X : On p l e room_1 s m args below meth c own_D Z n0 T A cells slots) (i0 : Int32) (i1 : Int32) (i2 : Int32) (i3 : Int32) (i4 : Int32) (i5 : Int32) (i6 : Int32) (i7 : Int32) (s0 : Int32) (hc : cells + 1 ≤ 16) (hs : slots + 6 ≤ 128) {q : Int32 × AH} (hf : f0_28 A i3 i4 i5 i6 i7 s0 = some q) :
    Go p e below (T.setTop (mkF m 28 #[.val (.int i0), .val (.int i1), .val (.int i2), .val (.int i3), .val (.int i4), .val (.int i5), .val (.int i6), .val (.int i7), .unset, .unset, .unset, .unset, .unset, .unset, .unset, .unset] [(.int s0)])) (Fini own_D Z n0 s room_1 (some (.int q.1)) q.2) := by
  unfold f0_28 at hf
  refine ldcI (pc' := 30) (v := (65535 : Int32)) K X (i := 1) rfl at_28 rfl ?_
  refine i_iand (pc' := 31) K X at_30 rfl ?_
  refine i_i2c (pc' := 32) K X at_31 rfl ?_
  exact w0_32 K sep X i0 i1 i2 i3 i4 i5 i6 i7 (((s0 &&& (65535 : Int32))).toUInt32.toUInt16.toUInt32.toInt32) (show cells + 1 ≤ 16 by omega) (show slots + 6 ≤ 128 by omega) hf
def f0_22 (A : AH) (i2 : Int32) (i3 : Int32) (i4 : Int32) (i5 : Int32) (i6 : Int32) (s0 : Int32) : Option (Int32 × AH) :=
  f0_28 A i3 i4 i5 i6 s0 (((i2).toUInt32 >>> ((16 : Int32) &&& 31).toUInt32).toInt32)
set_option maxRecDepth 65536 in
set_option maxHeartbeats 4000000 in
theorem w0_22 (K : Cx p l e room_1 s m meth c Z a0 tables_1 "com/example/cordel/cordel/PayloadWriterWriteTwoDigitsPinLaw" "law" code maxLocals ret) (sep : ∀ t, Sep Z (own_D t).2) (X : On p l e room_1 s m args below meth c own_D Z n0 T A cells slots) (i0 : Int32) (i1 : Int32) (i2 : Int32) (i3 : Int32) (i4 : Int32) (i5 : Int32) (i6 : Int32) (s0 : Int32) (hc : cells + 1 ≤ 16) (hs : slots + 6 ≤ 128) {q : Int32 × AH} (hf : f0_22 A i2 i3 i4 i5 i6 s0 = some q) :
    Go p e below (T.setTop (mkF m 22 #[.val (.int i0), .val (.int i1), .val (.int i2), .val (.int i3), .val (.int i4), .val (.int i5), .val (.int i6), .unset, .unset, .unset, .unset, .unset, .unset, .unset, .unset, .unset] [(.int s0)])) (Fini own_D Z n0 s room_1 (some (.int q.1)) q.2) := by
  unfold f0_22 at hf
  refine i_istore (pc' := 24) (Ls' := #[.val (.int i0), .val (.int i1), .val (.int i2), .val (.int i3), .val (.int i4), .val (.int i5), .val (.int i6), .val (.int s0), .unset, .unset, .unset, .unset, .unset, .unset, .unset, .unset]) K X at_22 rfl rfl ?_
  refine i_iloadN (pc' := 25) K X at_24 rfl rfl ?_
  refine i_bipush (pc' := 27) (v := (16 : Int32)) K X at_25 rfl rfl ?_
  refine i_iushr (pc' := 28) K X at_27 rfl ?_
  exact w0_28 K sep X i0 i1 i2 i3 i4 i5 i6 s0 (((i2).toUInt32 >>> ((16 : Int32) &&& 31).toUInt32).toInt32) (show cells + 1 ≤ 16 by omega) (show slots + 6 ≤ 128 by omega) hf
def f0_0 (A : AH) (i0 : Int32) (i1 : Int32) (i2 : Int32) (i3 : Int32) (i4 : Int32) : Option (Int32 × AH) :=
  f0_22 A i2 i3 i4 ((i0 &&& (2147483647 : Int32)) % (100 : Int32)) ((i1 &&& (2147483647 : Int32)) % (5 : Int32)) (((i2 &&& (65535 : Int32))).toUInt32.toUInt16.toUInt32.toInt32)
set_option maxRecDepth 65536 in
set_option maxHeartbeats 4000000 in
theorem w0_0 (K : Cx p l e room_1 s m meth c Z a0 tables_1 "com/example/cordel/cordel/PayloadWriterWriteTwoDigitsPinLaw" "law" code maxLocals ret) (sep : ∀ t, Sep Z (own_D t).2) (X : On p l e room_1 s m args below meth c own_D Z n0 T A cells slots) (i0 : Int32) (i1 : Int32) (i2 : Int32) (i3 : Int32) (i4 : Int32) (hc : cells + 1 ≤ 16) (hs : slots + 6 ≤ 128) {q : Int32 × AH} (hf : f0_0 A i0 i1 i2 i3 i4 = some q) :
    Go p e below (T.setTop (mkF m 0 #[.val (.int i0), .val (.int i1), .val (.int i2), .val (.int i3), .val (.int i4), .unset, .unset, .unset, .unset, .unset, .unset, .unset, .unset, .unset, .unset, .unset] [])) (Fini own_D Z n0 s room_1 (some (.int q.1)) q.2) := by
  unfold f0_0 at hf
  refine i_iloadN (pc' := 1) K X at_0 rfl rfl ?_
  refine ldcI (pc' := 3) (v := (2147483647 : Int32)) K X (i := 0) rfl at_1 rfl ?_
  refine i_iand (pc' := 4) K X at_3 rfl ?_
  refine i_bipush (pc' := 6) (v := (100 : Int32)) K X at_4 rfl rfl ?_
  refine i_irem (pc' := 7) K X at_6 rfl (by decide) ?_
  refine i_istore (pc' := 9) (Ls' := #[.val (.int i0), .val (.int i1), .val (.int i2), .val (.int i3), .val (.int i4), .val (.int ((i0 &&& (2147483647 : Int32)) % (100 : Int32))), .unset, .unset, .unset, .unset, .unset, .unset, .unset, .unset, .unset, .unset]) K X at_7 rfl rfl ?_
  refine i_iloadN (pc' := 10) K X at_9 rfl rfl ?_
  refine ldcI (pc' := 12) (v := (2147483647 : Int32)) K X (i := 0) rfl at_10 rfl ?_
  refine i_iand (pc' := 13) K X at_12 rfl ?_
  refine i_iconst (pc' := 14) (v := (5 : Int32)) K X at_13 rfl rfl ?_
  refine i_irem (pc' := 15) K X at_14 rfl (by decide) ?_
  refine i_istore (pc' := 17) (Ls' := #[.val (.int i0), .val (.int i1), .val (.int i2), .val (.int i3), .val (.int i4), .val (.int ((i0 &&& (2147483647 : Int32)) % (100 : Int32))), .val (.int ((i1 &&& (2147483647 : Int32)) % (5 : Int32))), .unset, .unset, .unset, .unset, .unset, .unset, .unset, .unset, .unset]) K X at_15 rfl rfl ?_
  refine i_iloadN (pc' := 18) K X at_17 rfl rfl ?_
  refine ldcI (pc' := 20) (v := (65535 : Int32)) K X (i := 1) rfl at_18 rfl ?_
  refine i_iand (pc' := 21) K X at_20 rfl ?_
  refine i_i2c (pc' := 22) K X at_21 rfl ?_
  exact w0_22 K sep X i0 i1 i2 i3 i4 ((i0 &&& (2147483647 : Int32)) % (100 : Int32)) ((i1 &&& (2147483647 : Int32)) % (5 : Int32)) (((i2 &&& (65535 : Int32))).toUInt32.toUInt16.toUInt32.toInt32) (show cells + 1 ≤ 16 by omega) (show slots + 6 ≤ 128 by omega) hf
theorem pn_0 : plainName "com/example/cordel/cordel/PayloadWriterWriteTwoDigitsPinLaw" = true := by first | (simp [plainName, overriddenIn]; done) | decide +kernel
theorem rm0 {l : Launch} {Z : State} {a0 : Array Value} {n0 : Nat} (hw : ∀ d ∈ tables_1, d.before a0 Z = true) (A : AH) (i0 : Int32) (i1 : Int32) (i2 : Int32) (i3 : Int32) (i4 : Int32) {q : Int32 × AH} (hf : f0_0 A i0 i1 i2 i3 i4 = some q) :
    Met l own_D Z n0 x code maxLocals ret room_1 [(.int i0), (.int i1), (.int i2), (.int i3), (.int i4)] A (some (.int q.1)) q.2 :=
  met (W := tables_1) (a0 := a0) (own := "com/example/cordel/cordel/PayloadWriterWriteTwoDigitsPinLaw") (nm := "law") (L0 := #[.val (.int i0), .val (.int i1), .val (.int i2), .val (.int i3), .val (.int i4), .unset, .unset, .unset, .unset, .unset, .unset, .unset, .unset, .unset, .unset, .unset]) (plainFor_of_name pn_0) hw rfl rfl (fun m => by first | (simp [entryFrame, mkF, argsToLocals, Value.category, maxLocals]; done) | rfl) (fun p e s m below meth c T K X => w0_0 K (own_sep hw) X i0 i1 i2 i3 i4 (show 0 + 1 ≤ 16 by decide) (show 0 + 6 ≤ 128 by decide) hf)
end OwnWalk
/-! the plain law -/
theorem own_nc (y : Int32) : nar .char (y.toUInt32.toUInt16.toUInt32.toInt32) = y.toUInt32.toUInt16.toUInt32.toInt32 := by
  show (y.toUInt32.toUInt16.toUInt32.toInt32).toUInt32.toUInt16.toUInt32.toInt32 = _
  apply Int32.toInt_inj.mp
  have h1 := c_i2c y
  have h2 := c_i2c (y.toUInt32.toUInt16.toUInt32.toInt32)
  omega
theorem own_dig (y : Int32) (h0 : 0 ≤ y.toInt) (h1 : y.toInt ≤ 9) : (nar .char (((48 : Int32) + y).toUInt32.toUInt16.toUInt32.toInt32)).toInt = 48 + y.toInt := by
  rw [own_nc]
  have h2 := c_i2c ((48 : Int32) + y)
  have h3 := c_iadd 48 y
  have h4 := rng32 (48 + y)
  simp only [show (48 : Int32).toInt = 48 from by decide] at h3
  omega
theorem own_kept (A : AH) (i at' c : Int32) (h : i = at' ∨ i = at' + 1 ∨ asI (h_aget A 1 0 i) = some c) : f2_0 A 0 i at' c = some (1, A) := by
  unfold f2_0
  by_cases h1 : i = at'
  · rw [if_pos h1]; rfl
  · rw [if_neg h1]
    by_cases h2 : i = at' + 1
    · rw [if_pos h2]; rfl
    · rw [if_neg h2]
      rcases h with h | h | h
      · exact absurd h h1
      · exact absurd h h2
      · rw [h]
        simp only [Option.bind_some]
        rw [if_pos trivial]; rfl
theorem own_end (A : AH) (n at' c0 c1 c2 c3 c4 c5 : Int32) (n0 : 0 ≤ n.toInt) (n1 : n.toInt ≤ 99)
    (hh : asI (h_aget A 1 0 at') = some (nar .char (((48 : Int32) + (n / 10)).toUInt32.toUInt16.toUInt32.toInt32))) (hl : asI (h_aget A 1 0 (at' + 1)) = some (nar .char (((48 : Int32) + (n % 10)).toUInt32.toUInt16.toUInt32.toInt32)))
    (k0 : (0 : Int32) = at' ∨ (0 : Int32) = at' + 1 ∨ asI (h_aget A 1 0 0) = some c0) (k1 : (1 : Int32) = at' ∨ (1 : Int32) = at' + 1 ∨ asI (h_aget A 1 0 1) = some c1) (k2 : (2 : Int32) = at' ∨ (2 : Int32) = at' + 1 ∨ asI (h_aget A 1 0 2) = some c2)
    (k3 : (3 : Int32) = at' ∨ (3 : Int32) = at' + 1 ∨ asI (h_aget A 1 0 3) = some c3) (k4 : (4 : Int32) = at' ∨ (4 : Int32) = at' + 1 ∨ asI (h_aget A 1 0 4) = some c4) (k5 : (5 : Int32) = at' ∨ (5 : Int32) = at' + 1 ∨ asI (h_aget A 1 0 5) = some c5) :
    f0_115 A n at' c0 c1 c2 c3 c4 c5 0 = some (1, A) := by
  have e1 := (c_idiv n 10 10 (by decide) (by decide)).1 n0
  have e2 := (c_irem n 10 10 (by decide)).1 n0
  have d1 := own_dig (n / 10) (by omega) (by omega)
  have d2 := own_dig (n % 10) (by omega) (by omega)
  unfold f0_115
  rw [hh, hl]
  simp only [Option.bind_some]
  generalize nar .char (((48 : Int32) + (n / 10)).toUInt32.toUInt16.toUInt32.toInt32) = H at *
  generalize nar .char (((48 : Int32) + (n % 10)).toUInt32.toUInt16.toUInt32.toInt32) = L at *
  have z1 : (48 : Int32).toInt = 48 := by decide
  have z2 : (57 : Int32).toInt = 57 := by decide
  rw [if_neg (by rw [Int32.lt_iff_toInt_lt]; omega), if_neg (by rw [Int32.lt_iff_toInt_lt]; omega)]
  unfold f0_145
  rw [if_neg (by rw [Int32.lt_iff_toInt_lt]; omega), if_neg (by rw [Int32.lt_iff_toInt_lt]; omega)]
  have s1 := c_isub H 48; have s2 := c_isub L 48
  have s3 := c_imul (H - 48) 10
  have s4 := c_iadd ((H - 48) * 10) (L - 48)
  have r1 := rng32 (H - 48); have r2 := rng32 (L - 48); have r3 := rng32 ((H - 48) * 10); have r4 := rng32 ((H - 48) * 10 + (L - 48))
  simp only [show (10 : Int32).toInt = 10 from by decide, z1] at s1 s2 s3 s4
  unfold f0_175
  rw [if_pos (Int32.toInt_inj.mp (by omega)), own_kept A 0 at' c0 k0]
  simp only [Option.bind_some]
  rw [if_neg (by decide), own_kept A 1 at' c1 k1]
  simp only [Option.bind_some]
  rw [if_neg (by decide)]
  unfold f0_211
  rw [own_kept A 2 at' c2 k2]
  simp only [Option.bind_some]
  rw [if_neg (by decide), own_kept A 3 at' c3 k3]
  simp only [Option.bind_some]
  rw [if_neg (by decide), own_kept A 4 at' c4 k4]
  simp only [Option.bind_some]
  rw [if_neg (by decide)]
  unfold f0_247
  rw [own_kept A 5 at' c5 k5]
  simp only [Option.bind_some]
  rw [if_neg (by decide)]
  rfl
def own_A (x0 x1 x2 x3 x4 x5 : Int32) : AH := [(1, [.int x0, .int x1, .int x2, .int x3, .int x4, .int x5])]
theorem own_p0 (x0 x1 x2 x3 x4 x5 v : Int32) : h_aset (own_A x0 x1 x2 x3 x4 x5) 1 0 0 (.int v) = some (own_A v x1 x2 x3 x4 x5) := rfl
theorem own_q0 (x0 x1 x2 x3 x4 x5 : Int32) : asI (h_aget (own_A x0 x1 x2 x3 x4 x5) 1 0 0) = some x0 := rfl
theorem own_p1 (x0 x1 x2 x3 x4 x5 v : Int32) : h_aset (own_A x0 x1 x2 x3 x4 x5) 1 0 1 (.int v) = some (own_A x0 v x2 x3 x4 x5) := rfl
theorem own_q1 (x0 x1 x2 x3 x4 x5 : Int32) : asI (h_aget (own_A x0 x1 x2 x3 x4 x5) 1 0 1) = some x1 := rfl
theorem own_p2 (x0 x1 x2 x3 x4 x5 v : Int32) : h_aset (own_A x0 x1 x2 x3 x4 x5) 1 0 2 (.int v) = some (own_A x0 x1 v x3 x4 x5) := rfl
theorem own_q2 (x0 x1 x2 x3 x4 x5 : Int32) : asI (h_aget (own_A x0 x1 x2 x3 x4 x5) 1 0 2) = some x2 := rfl
theorem own_p3 (x0 x1 x2 x3 x4 x5 v : Int32) : h_aset (own_A x0 x1 x2 x3 x4 x5) 1 0 3 (.int v) = some (own_A x0 x1 x2 v x4 x5) := rfl
theorem own_q3 (x0 x1 x2 x3 x4 x5 : Int32) : asI (h_aget (own_A x0 x1 x2 x3 x4 x5) 1 0 3) = some x3 := rfl
theorem own_p4 (x0 x1 x2 x3 x4 x5 v : Int32) : h_aset (own_A x0 x1 x2 x3 x4 x5) 1 0 4 (.int v) = some (own_A x0 x1 x2 x3 v x5) := rfl
theorem own_q4 (x0 x1 x2 x3 x4 x5 : Int32) : asI (h_aget (own_A x0 x1 x2 x3 x4 x5) 1 0 4) = some x4 := rfl
theorem own_p5 (x0 x1 x2 x3 x4 x5 v : Int32) : h_aset (own_A x0 x1 x2 x3 x4 x5) 1 0 5 (.int v) = some (own_A x0 x1 x2 x3 x4 v) := rfl
theorem own_q5 (x0 x1 x2 x3 x4 x5 : Int32) : asI (h_aget (own_A x0 x1 x2 x3 x4 x5) 1 0 5) = some x5 := rfl
theorem own_mkA : h_anew [] 1 6 6 (.int 0) = some (0, own_A 0 0 0 0 0 0) := rfl
theorem own_arr (n at' c0 c1 c2 c3 c4 c5 : Int32) (n0 : 0 ≤ n.toInt) (n1 : n.toInt ≤ 99) (a0 : at' = 0 ∨ at' = 1 ∨ at' = 2 ∨ at' = 3 ∨ at' = 4)
    (h0 : nar .char c0 = c0) (h1 : nar .char c1 = c1) (h2 : nar .char c2 = c2) (h3 : nar .char c3 = c3) (h4 : nar .char c4 = c4) (h5 : nar .char c5 = c5) : ∃ A, f0_68 [] n at' c0 c1 c2 c3 c4 c5 = some (1, A) := by
  unfold f0_68
  rw [own_mkA, Option.bind_some, own_p0, Option.bind_some, own_p1, Option.bind_some, own_p2, Option.bind_some]
  unfold f0_90
  rw [own_p3, Option.bind_some, own_p4, Option.bind_some, own_p5, Option.bind_some, h0, h1, h2, h3, h4, h5]
  unfold f1_0 f1_10 f1_23
  rcases a0 with rfl | rfl | rfl | rfl | rfl
  · have e : (0 : Int32) + 1 = 1 := by decide
    rw [own_p0, Option.bind_some, e, own_p1, Option.bind_some, Option.bind_some]
    exact ⟨_, own_end _ n 0 c0 c1 c2 c3 c4 c5 n0 n1 (own_q0 ..) (by rw [e]; exact own_q1 ..) (Or.inl rfl) (Or.inr (Or.inl (by decide))) (Or.inr (Or.inr (own_q2 ..))) (Or.inr (Or.inr (own_q3 ..))) (Or.inr (Or.inr (own_q4 ..))) (Or.inr (Or.inr (own_q5 ..)))⟩
  · have e : (1 : Int32) + 1 = 2 := by decide
    rw [own_p1, Option.bind_some, e, own_p2, Option.bind_some, Option.bind_some]
    exact ⟨_, own_end _ n 1 c0 c1 c2 c3 c4 c5 n0 n1 (own_q1 ..) (by rw [e]; exact own_q2 ..) (Or.inr (Or.inr (own_q0 ..))) (Or.inl rfl) (Or.inr (Or.inl (by decide))) (Or.inr (Or.inr (own_q3 ..))) (Or.inr (Or.inr (own_q4 ..))) (Or.inr (Or.inr (own_q5 ..)))⟩
  · have e : (2 : Int32) + 1 = 3 := by decide
    rw [own_p2, Option.bind_some, e, own_p3, Option.bind_some, Option.bind_some]
    exact ⟨_, own_end _ n 2 c0 c1 c2 c3 c4 c5 n0 n1 (own_q2 ..) (by rw [e]; exact own_q3 ..) (Or.inr (Or.inr (own_q0 ..))) (Or.inr (Or.inr (own_q1 ..))) (Or.inl rfl) (Or.inr (Or.inl (by decide))) (Or.inr (Or.inr (own_q4 ..))) (Or.inr (Or.inr (own_q5 ..)))⟩
  · have e : (3 : Int32) + 1 = 4 := by decide
    rw [own_p3, Option.bind_some, e, own_p4, Option.bind_some, Option.bind_some]
    exact ⟨_, own_end _ n 3 c0 c1 c2 c3 c4 c5 n0 n1 (own_q3 ..) (by rw [e]; exact own_q4 ..) (Or.inr (Or.inr (own_q0 ..))) (Or.inr (Or.inr (own_q1 ..))) (Or.inr (Or.inr (own_q2 ..))) (Or.inl rfl) (Or.inr (Or.inl (by decide))) (Or.inr (Or.inr (own_q5 ..)))⟩
  · have e : (4 : Int32) + 1 = 5 := by decide
    rw [own_p4, Option.bind_some, e, own_p5, Option.bind_some, Option.bind_some]
    exact ⟨_, own_end _ n 4 c0 c1 c2 c3 c4 c5 n0 n1 (own_q4 ..) (by rw [e]; exact own_q5 ..) (Or.inr (Or.inr (own_q0 ..))) (Or.inr (Or.inr (own_q1 ..))) (Or.inr (Or.inr (own_q2 ..))) (Or.inr (Or.inr (own_q3 ..))) (Or.inl rfl) (Or.inr (Or.inl (by decide)))⟩
theorem own_plain (i0 i1 i2 i3 i4 : Int32) : ∃ A, f0_0 [] i0 i1 i2 i3 i4 = some (1, A) := by
  unfold f0_0 f0_22 f0_28 f0_32 f0_39 f0_45 f0_49 f0_57 f0_64
  have m0 := c_mask i0 2147483647 31 (by decide) (by decide)
  have m1 := c_mask i1 2147483647 31 (by decide) (by decide)
  simp only [show ((2 ^ 31 : Nat) : Int) = 2147483648 from rfl] at m0 m1
  have e0 := (c_irem (i0 &&& 2147483647) 100 100 (by decide)).1 (by omega)
  have e1 := (c_irem (i1 &&& 2147483647) 5 5 (by decide)).1 (by omega)
  refine own_arr _ _ _ _ _ _ _ _ (by omega) (by omega) ?_ (own_nc _) (own_nc _) (own_nc _) (own_nc _) (own_nc _) (own_nc _)
  generalize ((i1 &&& 2147483647) % 5) = a at *
  have : a.toInt = 0 ∨ a.toInt = 1 ∨ a.toInt = 2 ∨ a.toInt = 3 ∨ a.toInt = 4 := by omega
  rcases this with h | h | h | h | h
  · exact Or.inl (Int32.toInt_inj.mp (by rw [h]; decide))
  · exact Or.inr (Or.inl (Int32.toInt_inj.mp (by rw [h]; decide)))
  · exact Or.inr (Or.inr (Or.inl (Int32.toInt_inj.mp (by rw [h]; decide))))
  · exact Or.inr (Or.inr (Or.inr (Or.inl (Int32.toInt_inj.mp (by rw [h]; decide)))))
  · exact Or.inr (Or.inr (Or.inr (Or.inr (Int32.toInt_inj.mp (by rw [h]; decide)))))
set_option maxRecDepth 65536 in
set_option maxHeartbeats 4000000 in
theorem comes_1 {Post : Tables → Env → Array Value → State → Outcome → State → Prop} (hpost : ∀ tb e args s v u, (limb_1_1.after args s (.returned v) u = true ∧ limb_1_2.after args s (.returned v) u = true) → FrameEnd s (.returned v) u (Jvm.fieldLocs frame_1_writes args s ++ Jvm.arrayLocs frame_1_arrays args s ++ Jvm.staticLocs frame_1_statics s) 16 128 → Post tb e args s (.returned v) u) :
    ArmFor flags0 classFile x code maxLocals ret World_1 tables_1 room_1 Calls_1 rest_1 Pre_1 Post := by
  intro l hfl _ _ p e ha hc hk s m args below hf hA hF happ hP
  obtain ⟨hcalls, hrest, hpre⟩ := hP
  obtain ⟨-, -, -, hnamed, -, -, -, hat⟩ := (Spec.applies_iff hf).mp happ
  obtain ⟨hg, hn⟩ := and_e (Cond.before_iff.mp (show (Jvm.Cond.and given_1 narrow_1).before args s = true from hpre))
  obtain ⟨b0, hg⟩ := and_e hg
  obtain ⟨b1, hg⟩ := and_e hg
  obtain ⟨b2, hg⟩ := and_e hg
  obtain ⟨b3, hg⟩ := and_e hg
  obtain ⟨b4, hg⟩ := and_e hg
  have b5 := hg
  obtain ⟨w0, w1, w2, w3, w4, rfl⟩ : ∃ w0 w1 w2 w3 w4 : Value, args = #[w0, w1, w2, w3, w4] := by
    have hs : args.size = 5 := by simpa [Cond.value, given_1] using b0
    obtain ⟨L⟩ := args
    match L, hs with
    | [w0, w1, w2, w3, w4], _ => exact ⟨w0, w1, w2, w3, w4, rfl⟩
  have hw := fun d (hd : d ∈ tables_1) => atoms_spec (ws := Jvm.Cond.code x code maxLocals ret :: tables_1) hat d (List.mem_cons_of_mem _ hd)
  obtain ⟨i0, ei0⟩ := is_v b1
  obtain rfl : w0 = (.int i0) := Option.some.inj ei0
  obtain ⟨i1, ei1⟩ := is_v b2
  obtain rfl : w1 = (.int i1) := Option.some.inj ei1
  obtain ⟨i2, ei2⟩ := is_v b3
  obtain rfl : w2 = (.int i2) := Option.some.inj ei2
  obtain ⟨i3, ei3⟩ := is_v b4
  obtain rfl : w3 = (.int i3) := Option.some.inj ei3
  obtain ⟨i4, ei4⟩ := is_v b5
  obtain rfl : w4 = (.int i4) := Option.some.inj ei4
  have RA : Rep own_D s s.heap.size s.heap [] := ⟨rfl, fun i t vs e => by simp at e⟩
  obtain ⟨AE, hv⟩ := own_plain i0 i1 i2 i3 i4
  obtain ⟨n, o, h1, h2, h3, v, L, rfl, ⟨rfl, N, -⟩, hq⟩ := rm0 (l := l) (n0 := s.heap.size) hw [] i0 i1 i2 i3 i4 hv tables_1 s.heap RA p e ha hc hk s m _ below hf ((Spec.applies_iff_loose hf).mp happ).1 ⟨rfl, State.Warmed39.refl s, rfl⟩ trivial
  refine ⟨n, _, h1, h2, h3, hpost _ _ _ _ _ _ ⟨Cond.after_iff.mpr rfl, Cond.after_iff.mpr (eq_i res_at (Term.int_eval (1)) rfl)⟩ ⟨hq.1, hq.2.1, (hq.2.2.sift fun y hy => Or.inr (N y hy)).mono (by decide) (by decide)⟩⟩
theorem main_1_1 : Claimed_1_1 := comes_1 fun _ _ _ _ _ _ h hF => ⟨h.1, hF⟩
theorem main_1_2 : Claimed_1_2 := comes_1 fun _ _ _ _ _ _ h hF => ⟨h.2, hF⟩
end Jvm.Pilot.@@N@@
namespace Jvm.Pilot.@@N@@
open Jvm Jvm.ClassFile Sem Op Lib Jvm.Free Jvm.Stand Jvm.Pilot.@@N@@.Jvm.D
/-! MADE BY PROGRAM (witnessworld.py) out of the Statement's table words and the real class files: 12 classes; the members and pool entries that the words name. The judged class is class 1, her method 1. -/
namespace start1
open Jvm.ClassFile
def u (s : String) : CpInfo := .utf8 (stringToUtf16 s)
/-- a pool by its gaps: so many unusable entries, then the entry; so many at the end -/
def gap : Nat → List CpInfo → List CpInfo
  | 0, r => r
  | n + 1, r => .unusable :: gap n r
def poolList (es : List (Nat × CpInfo)) (last : Nat) : List CpInfo := es.foldr (fun e r => gap e.1 (e.2 :: r)) (gap last [])
def pool (es : List (Nat × CpInfo)) (last : Nat) : Array CpInfo := ⟨poolList es last⟩
def fileOf (pool : Array CpInfo) (this : Nat) (attrs : Array Attribute := #[]) (ms : Array MethodInfo := #[]) (fl : Nat := 33) (sup : Nat := 0) (ifs : Array Nat := #[]) (fds : Array FieldInfo := #[]) : ClassFile where
  minorVersion := 0
  majorVersion := 65
  constantPool := pool
  accessFlags := fl
  thisClass := this
  superClass := sup
  interfaces := ifs
  fields := fds
  methods := ms
  attributes := attrs
def plain (name : String) (sup : Option ClassId) : Class where
  name := name
  kind := .ordinary
  loader := none
  accessFlags := 33
  super := sup
  interfaces := #[]
  cf := none
  fields := #[]
  methods := #[]
  instanceTypes := #[]
  staticTypes := #[]
  resolved := #[]
  callSites := []
  init := .initialized
  statics := none
  mirror := none

def pool0 : Array CpInfo := pool [(5, u "<init>"), (0, u "()V"), (1, .class_ 10), (1, u "java/lang/Object")] 113

def k0m0 : Method := { name := "<init>", desc := "()V", sig := { parameters := [], returnType := none }, accessFlags := 1, code := none }
/-- java/lang/Object -/
def k0 : Class := { plain "java/lang/Object" none with
  accessFlags := 33
  interfaces := #[]
  cf := some (fileOf pool0 8 #[] #[{ accessFlags := 1, nameIndex := 5, descriptorIndex := 6, attributes := #[] }] 33 0 #[] #[])
  fields := #[]
  methods := #[k0m0]
  instanceTypes := #[]
  staticTypes := #[]
  resolved := Array.replicate 124 none
  statics := none }

def pool1 : Array CpInfo := pool [(2, .class_ 4), (1, u "java/lang/Object"), (0, u "<init>"), (0, u "()V"), (0, .integer 2147483647), (0, .integer 65535), (0, .methodref 10 11), (0, .class_ 12), (0, .nameAndType 13 14), (0, u "com/example/cordel/cordel/PayloadWriter"), (0, u "writeTwoDigits"), (0, u "([CII)V"), (0, .methodref 16 17), (0, .class_ 18), (0, .nameAndType 19 20), (0, u "com/example/cordel/cordel/PayloadWriterWriteTwoDigitsPinLaw"), (0, u "kept"), (0, u "([CIIC)Z"), (2, u "law"), (0, u "(IIIII)Z")] 5

def k1m0 : Method := { name := "<init>", desc := "()V", sig := { parameters := [], returnType := none }, accessFlags := 2, code := none }
def k1c1 : Code := { maxStack := 4, maxLocals := 16, code := code, exceptionTable := #[], attributes := #[] }
def k1m1 : Method := { name := "law", desc := "(IIIII)Z", sig := { parameters := [.int, .int, .int, .int, .int], returnType := some .boolean }, accessFlags := 9, code := some k1c1 }
def k1c2 : Code := { maxStack := 3, maxLocals := 4, code := method_3_code, exceptionTable := #[], attributes := #[] }
def k1m2 : Method := { name := "kept", desc := "([CIIC)Z", sig := { parameters := [(.array .char), .int, .int, .char], returnType := some .boolean }, accessFlags := 10, code := some k1c2 }
/-- com/example/cordel/cordel/PayloadWriterWriteTwoDigitsPinLaw -/
def k1 : Class := { plain "com/example/cordel/cordel/PayloadWriterWriteTwoDigitsPinLaw" (some 0) with
  accessFlags := 49
  interfaces := #[]
  cf := some (fileOf pool1 16 #[] #[{ accessFlags := 2, nameIndex := 5, descriptorIndex := 6, attributes := #[] }, { accessFlags := 9, nameIndex := 23, descriptorIndex := 24, attributes := #[] }, { accessFlags := 10, nameIndex := 19, descriptorIndex := 20, attributes := #[] }] 49 2 #[] #[])
  fields := #[]
  methods := #[k1m0, k1m1, k1m2]
  instanceTypes := #[]
  staticTypes := #[]
  resolved := Array.replicate 30 none
  statics := none }

def pool2 : Array CpInfo := pool [(1, .class_ 2), (0, u "com/example/cordel/cordel/DataObject$Visitor"), (0, .class_ 4), (0, u "java/lang/Object"), (8, .class_ 14), (0, u "com/example/cordel/cordel/DataObject")] 2

/-- com/example/cordel/cordel/DataObject$Visitor -/
def k2 : Class := { plain "com/example/cordel/cordel/DataObject$Visitor" (some 0) with
  accessFlags := 1536
  interfaces := #[]
  cf := some (fileOf pool2 1 #[.nestHost 13] #[] 1536 3 #[] #[])
  fields := #[]
  methods := #[]
  instanceTypes := #[]
  staticTypes := #[]
  resolved := Array.replicate 17 none
  statics := none }

def pool3 : Array CpInfo := pool [(2, .class_ 4), (1, u "java/lang/Object"), (3, .class_ 10), (1, u "com/example/cordel/cordel/PayloadWriter"), (0, u "text"), (0, u "[C"), (2, u "path"), (0, u "Ljava/lang/String;"), (8, u "kind"), (0, u "I"), (6, u "size"), (38, u "CRC_OBJECT_LENGTH"), (20, u "([CII)V"), (17, u "CRC_HEADER"), (44, .class_ 157), (0, u "com/example/cordel/cordel/PayloadWriter$Open"), (2, u "open"), (0, u "Lcom/example/cordel/cordel/PayloadWriter$Open;"), (5, u "written"), (29, u "writeTwoDigits"), (42, .class_ 241), (0, u "com/example/cordel/cordel/DataObject$Visitor")] 36

def k3c0 : Code := { maxStack := 5, maxLocals := 3, code := prog_48_method_5_code, exceptionTable := #[], attributes := #[] }
def k3m0 : Method := { name := "writeTwoDigits", desc := "([CII)V", sig := { parameters := [(.array .char), .int, .int], returnType := none }, accessFlags := 8, code := some k3c0 }
/-- com/example/cordel/cordel/PayloadWriter -/
def k3 : Class := { plain "com/example/cordel/cordel/PayloadWriter" (some 0) with
  accessFlags := 48
  interfaces := #[2]
  cf := some (fileOf pool3 8 #[.nestMembers #[156]] #[{ accessFlags := 8, nameIndex := 197, descriptorIndex := 93, attributes := #[] }] 48 2 #[240] #[{ accessFlags := 26, nameIndex := 111, descriptorIndex := 16, attributes := #[] }, { accessFlags := 24, nameIndex := 72, descriptorIndex := 26, attributes := #[] }, { accessFlags := 18, nameIndex := 15, descriptorIndex := 16, attributes := #[] }, { accessFlags := 18, nameIndex := 25, descriptorIndex := 26, attributes := #[] }, { accessFlags := 2, nameIndex := 11, descriptorIndex := 12, attributes := #[] }, { accessFlags := 2, nameIndex := 33, descriptorIndex := 26, attributes := #[] }, { accessFlags := 2, nameIndex := 160, descriptorIndex := 161, attributes := #[] }, { accessFlags := 2, nameIndex := 167, descriptorIndex := 26, attributes := #[] }])
  fields := #[{ name := "CRC_HEADER", type := (.object "java/lang/String"), accessFlags := 26, slot := 0, constantValue := 0 }, { name := "CRC_OBJECT_LENGTH", type := .int, accessFlags := 24, slot := 1, constantValue := 0 }, { name := "path", type := (.object "java/lang/String"), accessFlags := 18, slot := 0, constantValue := 0 }, { name := "kind", type := .int, accessFlags := 18, slot := 1, constantValue := 0 }, { name := "text", type := (.array .char), accessFlags := 2, slot := 2, constantValue := 0 }, { name := "size", type := .int, accessFlags := 2, slot := 3, constantValue := 0 }, { name := "open", type := (.object "com/example/cordel/cordel/PayloadWriter$Open"), accessFlags := 2, slot := 4, constantValue := 0 }, { name := "written", type := .int, accessFlags := 2, slot := 5, constantValue := 0 }]
  methods := #[k3m0]
  instanceTypes := #[(.object "java/lang/String"), .int, (.array .char), .int, (.object "com/example/cordel/cordel/PayloadWriter$Open"), .int]
  staticTypes := #[(.object "java/lang/String"), .int]
  resolved := Array.replicate 278 none
  statics := none }

def pool4 : Array CpInfo := pool [(1, u "java/lang/Cloneable"), (0, .class_ 1), (0, u "java/lang/Object"), (0, .class_ 3)] 3

/-- java/lang/Cloneable -/
def k4 : Class := { plain "java/lang/Cloneable" (some 0) with
  accessFlags := 1537
  interfaces := #[]
  cf := some (fileOf pool4 2 #[] #[] 1537 4 #[] #[])
  fields := #[]
  methods := #[]
  instanceTypes := #[]
  staticTypes := #[]
  resolved := Array.replicate 8 none
  statics := none }

def pool5 : Array CpInfo := pool [(1, u "java/io/Serializable"), (0, .class_ 1), (0, u "java/lang/Object"), (0, .class_ 3)] 3

/-- java/io/Serializable -/
def k5 : Class := { plain "java/io/Serializable" (some 0) with
  accessFlags := 1537
  interfaces := #[]
  cf := some (fileOf pool5 2 #[] #[] 1537 4 #[] #[])
  fields := #[]
  methods := #[]
  instanceTypes := #[]
  staticTypes := #[]
  resolved := Array.replicate 8 none
  statics := none }

/-- the primitive byte -/
def k6 : Class := { plain "byte" none with kind := .primitive 'B', accessFlags := 0x411 }
/-- [B -/
def k7 : Class := { plain "[B" (some 0) with kind := .array 6 .byte, interfaces := #[4, 5], accessFlags := 1041 }

/-- the primitive char -/
def k8 : Class := { plain "char" none with kind := .primitive 'C', accessFlags := 0x411 }
/-- [C -/
def k9 : Class := { plain "[C" (some 0) with kind := .array 8 .char, interfaces := #[4, 5], accessFlags := 1041 }

/-- the primitive int -/
def k10 : Class := { plain "int" none with kind := .primitive 'I', accessFlags := 0x411 }
/-- [I -/
def k11 : Class := { plain "[I" (some 0) with kind := .array 10 .int, interfaces := #[4, 5], accessFlags := 1041 }

def heap : Heap := #[]
def classes : Array Class := #[k0, k1, k2, k3, k4, k5, k6, k7, k8, k9, k10, k11]
def interned : List (Array UInt16 × Addr) := []
def slotsUsed : Nat := 0
def theMethod : MethodId := ⟨1, 1⟩
def args0 : Array Value := #[.int 5, .int 5, .int 5, .int 5, .int 5]
def aboutOver (below : List Frame) : State where
  vm := { classes := classes, interned := interned.toArray }
  heap := heap
  slotsUsed := slotsUsed
  threads := #[{ frames := .invoking theMethod args0 :: below }]
def below0 : List Frame := [.native { method := ⟨0, 0⟩, args := #[] }]
def about1 : State := aboutOver below0
def p0 : Program := .bare "" "" ""
def e0 : Env := launch0.env 0 0 0
theorem w_frames : about1.frames = Frame.invoking theMethod args0 :: below0 := rfl
set_option maxRecDepth 65536 in
theorem w_args : argsFit about1.vm theMethod args0 = true := by decide +kernel
set_option maxRecDepth 65536 in
theorem w_heap : heapFits about1 = true := by decide +kernel
set_option maxRecDepth 65536 in
theorem w_runnable : about1.curStatus? = some .runnable := by decide +kernel
set_option maxRecDepth 65536 in
theorem w_alone : about1.alone = true := by decide +kernel
set_option maxRecDepth 65536 in
theorem w_named : about1.methodNamed? x = some theMethod := by decide +kernel
set_option maxRecDepth 65536 in
theorem w_hears : about1.hears theMethod below0 = true := by decide +kernel
set_option maxRecDepth 65536 in
theorem w_ripe : about1.ripe theMethod args0 below0 = true := by decide +kernel
theorem w_running : about1.status = .running := rfl
set_option maxRecDepth 65536 in
theorem w_room : about1.hasRoom e0.platform room_1 = true :=
  launch0.hasRoom_least _ room_1 (by decide +kernel) (by decide +kernel) (by decide +kernel) (by decide +kernel) (by decide +kernel) (by decide +kernel)
theorem allAtoms_all (ts : List Jvm.Cond) (a : Array Jvm.Value) (st : Jvm.State) : (allAtoms ts).before a st = ts.all (fun c => c.before a st) := by
  induction ts with
  | nil => rfl
  | cons c t ih =>
    show (Jvm.Cond.and c (allAtoms t)).before a st = _
    rw [Jvm.Cond.before_and, ih, List.all_cons]
def words1 : List Jvm.Cond := Jvm.Cond.code x code maxLocals ret :: tables_1
/-- a 'code' word, met by the world's own term for the bytes: nothing is compared byte by byte -/
theorem code_word {y : MethodName} {bytes : ByteArray} {mx : Nat} {rt : Option FieldType} {a : Array Value} {s : State} {m : MethodId} {meth : Method} {c : Code} (h1 : s.methodNamed? y = some m) (h2 : s.vm.method? m = some meth) (h3 : meth.code = some c) (h4 : c.code = bytes)
    (h5 : (c.maxLocals == mx && c.exceptionTable.isEmpty && decide (c.maxStack ≤ mostOperands) && decide (meth.sig.returnType = rt) && !meth.locks && decide (parseMethodDescriptor y.desc = some meth.sig)) = true) : (Jvm.Cond.code y bytes mx rt).before a s = true := by
  simp only [Bool.and_eq_true, beq_iff_eq, Bool.not_eq_true', decide_eq_true_eq] at h5
  obtain ⟨⟨⟨⟨⟨g1, g2⟩, g3⟩, g4⟩, g5⟩, g6⟩ := h5
  simp [Cond.before, Cond.holds, Cond.value, h1, h2, h3, h4, g1, g2, g3, g4, g5, g6]
def isCode : Jvm.Cond → Bool
  | .code _ _ _ _ => true
  | _ => false
theorem all_split {L : List Jvm.Cond} {P : Jvm.Cond → Bool} (h1 : L.all (fun c => isCode c || P c) = true) (h2 : ∀ c ∈ L.filter isCode, P c = true) : L.all P = true := by
  refine List.all_eq_true.mpr fun c hc => ?_
  have h := List.all_eq_true.mp h1 c hc
  rcases Bool.eq_false_or_eq_true (isCode c) with hi | hi
  · exact h2 c (List.mem_filter.mpr ⟨hc, hi⟩)
  · simpa [hi] using h
set_option maxRecDepth 65536 in
theorem w_c0 : (Jvm.Cond.code x code maxLocals ret).before args0 about1 = true := code_word (m := ⟨1, 1⟩) (meth := k1m1) (c := k1c1) (by decide +kernel) rfl rfl rfl (by decide +kernel)
set_option maxRecDepth 65536 in
theorem w_c1 : (Jvm.Cond.code ({ cls := "com/example/cordel/cordel/PayloadWriter", name := "writeTwoDigits", desc := "([CII)V" } : Jvm.MethodName) prog_48_method_5_code (3 : Nat) (Option.none : Option Jvm.ClassFile.FieldType)).before args0 about1 = true := code_word (m := ⟨3, 0⟩) (meth := k3m0) (c := k3c0) (by decide +kernel) rfl rfl rfl (by decide +kernel)
set_option maxRecDepth 65536 in
theorem w_c2 : (Jvm.Cond.code ({ cls := "com/example/cordel/cordel/PayloadWriterWriteTwoDigitsPinLaw", name := "kept", desc := "([CIIC)Z" } : Jvm.MethodName) method_3_code (4 : Nat) (Option.some Jvm.ClassFile.FieldType.boolean)).before args0 about1 = true := code_word (m := ⟨1, 2⟩) (meth := k1m2) (c := k1c2) (by decide +kernel) rfl rfl rfl (by decide +kernel)
def codes1 : List Jvm.Cond := [Jvm.Cond.code x code maxLocals ret, Jvm.Cond.code ({ cls := "com/example/cordel/cordel/PayloadWriter", name := "writeTwoDigits", desc := "([CII)V" } : Jvm.MethodName) prog_48_method_5_code (3 : Nat) (Option.none : Option Jvm.ClassFile.FieldType), Jvm.Cond.code ({ cls := "com/example/cordel/cordel/PayloadWriterWriteTwoDigitsPinLaw", name := "kept", desc := "([CIIC)Z" } : Jvm.MethodName) method_3_code (4 : Nat) (Option.some Jvm.ClassFile.FieldType.boolean)]
set_option maxRecDepth 65536 in
theorem codes_eq : words1.filter isCode = codes1 := rfl
theorem w_codes : ∀ c ∈ words1.filter isCode, c.before args0 about1 = true := by
  rw [codes_eq]
  intro c hc
  simp only [codes1, List.mem_cons, List.not_mem_nil, or_false] at hc
  rcases hc with rfl | rfl | rfl
  · exact w_c0
  · exact w_c1
  · exact w_c2
set_option maxRecDepth 65536 in
theorem w_t1 : words1.all (fun c => isCode c || c.before args0 about1) = true := by decide +kernel
theorem w_tables : (allAtoms (Jvm.Cond.code x code maxLocals ret :: tables_1)).before args0 about1 = true := by
  rw [allAtoms_all]
  show words1.all (fun c => c.before args0 about1) = true
  refine all_split ?_ w_codes
  rw [w_t1]
set_option maxRecDepth 65536 in
theorem w_case : (Jvm.Cond.and given_1 narrow_1).before args0 about1 = true := by decide +kernel
theorem w_applies : (headSpec (Jvm.Cond.code x code maxLocals ret :: tables_1) room_1).applies x e0.platform about1 = true :=
  (Spec.applies_iff w_frames).mpr ⟨w_running, w_runnable, w_alone, w_named, w_hears, w_ripe, w_room, w_tables⟩
theorem atStart : AtStart classFile x code maxLocals ret World_1 tables_1 room_1 Calls_1 rest_1 Pre_1 launch0 p0 e0 about1 theMethod args0 below0 :=
  ⟨lists_1, trivial, launch0.admits_env _ _ _, launch0.least_env, fairChoices_fair.cas, fairChoices_fair.clock, w_frames, w_args, w_heap, w_applies, trivial, trivial, w_case⟩
end start1
theorem witness_1 : WitnessClaimed_1 := ⟨start1.p0, start1.e0, start1.about1, start1.theMethod, start1.args0, start1.below0, start1.atStart⟩
end Jvm.Pilot.@@N@@
