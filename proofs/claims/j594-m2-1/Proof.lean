import JvmDerived
import JvmDerived.Pilot.@@N@@Statement
import JvmDerived.Pilot.@@N@@Code
set_option linter.unusedVariables false
set_option linter.unusedSimpArgs false
namespace Jvm.OwnKit
open Sem ClassFile Op Lib Jvm.Stand Jvm.Free Jvm.LawKit Jvm.RoadKit
/-! my own layer: an abstract heap of the objects and arrays that the law makes, and a run that goes on to its end -/
abbrev AH : Type := List (Nat × List Value)
abbrev Dic : Type := Nat → String × List (String × String × String)
def lf (n0 : Nat) : Value → Value
  | .ref i => .ref (n0 + i)
  | v => v
def aty : Nat → FieldType
  | 0 => .int
  | 1 => .char
  | 2 => .byte
  | 3 => .long
  | 4 => .boolean
  | _ => .short
def asI : Option Value → Option Int32
  | some (.int x) => some x
  | _ => none
def asJ : Option Value → Option Int64
  | some (.long x) => some x
  | _ => none
def asR : Option Value → Option Nat
  | some (.ref x) => some x
  | _ => none
theorem asI_s {o : Option Value} {x : Int32} (h : asI o = some x) : o = some (.int x) := by
  unfold asI at h; split at h <;> simp_all
theorem asJ_s {o : Option Value} {x : Int64} (h : asJ o = some x) : o = some (.long x) := by
  unfold asJ at h; split at h <;> simp_all
theorem asR_s {o : Option Value} {x : Nat} (h : asR o = some x) : o = some (.ref x) := by
  unfold asR at h; split at h <;> simp_all
/-- a field, a component: read, written -/
def h_fget (A : AH) (t a k : Nat) : Option Value := match A[a]? with
  | some (t', vs) => if t' = t then vs[k]? else none
  | none => none
def h_fset (A : AH) (t a k : Nat) (v : Value) : Option AH := match A[a]? with
  | some (t', vs) => if t' = t ∧ k < vs.length then some (A.set a (t', vs.set k v)) else none
  | none => none
def h_aget (A : AH) (t a : Nat) (j : Int32) : Option Value := if j < 0 then none else h_fget A t a j.toNatClampNeg
def h_aset (A : AH) (t a : Nat) (j : Int32) (v : Value) : Option AH := if j < 0 then none else h_fset A t a j.toNatClampNeg v
def h_alen (A : AH) (t a : Nat) : Option Int32 := match A[a]? with
  | some (t', vs) => if t' = t then some vs.length.toInt32 else none
  | none => none
def h_onew (A : AH) (t : Nat) (ds : List Value) : Option (Nat × AH) := some (A.length, A ++ [(t, ds)])
def h_anew (A : AH) (t cap : Nat) (n : Int32) (d : Value) : Option (Nat × AH) := if n < 0 ∨ cap < n.toNatClampNeg then none else some (A.length, A ++ [(t, List.replicate n.toNatClampNeg d)])
def h_isA (A : AH) (t a : Nat) : Option Unit := match A[a]? with
  | some (t', _) => if t' = t then some () else none
  | none => none
/-- what the heap holds of them -/
def OKa (Z : State) (h : Heap) (a : Addr) (ty : FieldType) (vs : List Value) : Prop := ∃ cl : Cell, Arr Z h a cl ty ∧ cl.slots.toList = vs ∧ vs.length < 2 ^ 31 ∧ ∀ v ∈ vs, fits ty v = true
def OKo (Z : State) (h : Heap) (a : Addr) (C : String) (L : List (String × String × String)) (vs : List Value) : Prop := Exa Z h a C ∧ ∀ (k : Nat) (O n d : String) (v : Value), L[k]? = some (O, n, d) → vs[k]? = some v → Fld Z h a O n d v
def OKx (D : Dic) (Z : State) (h : Heap) (a : Addr) (t : Nat) (vs : List Value) : Prop := (t < 10 → OKa Z h a (aty t) vs) ∧ (10 ≤ t → OKo Z h a (D t).1 (D t).2 vs)
def Rep (D : Dic) (Z : State) (n0 : Nat) (h : Heap) (A : AH) : Prop := h.size = n0 + A.length ∧ ∀ (i t : Nat) (vs : List Value), A[i]? = some (t, vs) → OKx D Z h (n0 + i) t (vs.map (lf n0))
def Sep (Z : State) (L : List (String × String × String)) : Prop := ∀ (k k' : Nat) (O n d O' n' d' : String), L[k]? = some (O, n, d) → L[k']? = some (O', n', d') → k ≠ k' → Jvm.RoadKit.slotOf Z O n d ≠ Jvm.RoadKit.slotOf Z O' n' d'
theorem Sep.nil {Z : State} : Sep Z [] := fun k k' O n d O' n' d' h => by simp at h
theorem sep_of {Z : State} {a0 : Array Value} {C : String} {L : List (String × String × String)} (hl : ∀ x ∈ L, Laid Z a0 C x.1 x.2.1 x.2.2 ∧ (parseFieldDescriptor x.2.2).isSome = true) (hn : (L.map fun x => x.2.1).Nodup) : Sep Z L := by
  intro k k' O n d O' n' d' h h' ne
  obtain ⟨l1, p1⟩ := hl _ (List.mem_of_getElem? h)
  obtain ⟨l2, p2⟩ := hl _ (List.mem_of_getElem? h')
  obtain ⟨t1, e1⟩ := Option.isSome_iff_exists.mp p1
  obtain ⟨t2, e2⟩ := Option.isSome_iff_exists.mp p2
  refine slot_ne l1 l2 ?_ e1 e2
  intro q
  obtain ⟨b1, g1⟩ := List.getElem?_eq_some_iff.mp h
  obtain ⟨b2, g2⟩ := List.getElem?_eq_some_iff.mp h'
  refine ne ((List.getElem_inj (xs := L.map fun x => x.2.1) (h₀ := by simpa using b1) (h₁ := by simpa using b2) hn).mp ?_)
  simp only [List.getElem_map, g1, g2]; exact q
section Facts
variable {D : Dic} {Z : State} {n0 : Nat} {h h' : Heap} {A A' : AH} {t a k : Nat} {v : Value}
theorem fget_s (hg : h_fget A t a k = some v) : ∃ vs, A[a]? = some (t, vs) ∧ vs[k]? = some v := by
  unfold h_fget at hg; split at hg
  · rename_i t' vs e
    split at hg
    · rename_i q; subst q; exact ⟨vs, e, hg⟩
    · cases hg
  · cases hg
theorem fset_s (hg : h_fset A t a k v = some A') : ∃ vs, A[a]? = some (t, vs) ∧ k < vs.length ∧ A' = A.set a (t, vs.set k v) := by
  unfold h_fset at hg; split at hg
  · rename_i t' vs e
    split at hg
    · rename_i q; obtain ⟨rfl, q⟩ := q; exact ⟨vs, e, q, (Option.some.inj hg).symm⟩
    · cases hg
  · cases hg
theorem aget_s {j : Int32} (hg : h_aget A t a j = some v) : ¬ j < 0 ∧ h_fget A t a j.toNatClampNeg = some v := by
  unfold h_aget at hg; split at hg
  · cases hg
  · exact ⟨by assumption, hg⟩
theorem aset_s {j : Int32} (hg : h_aset A t a j v = some A') : ¬ j < 0 ∧ h_fset A t a j.toNatClampNeg v = some A' := by
  unfold h_aset at hg; split at hg
  · cases hg
  · exact ⟨by assumption, hg⟩
theorem isA_s {u : Unit} (hg : h_isA A t a = some u) : ∃ vs, A[a]? = some (t, vs) := by
  unfold h_isA at hg; split at hg
  · rename_i t' vs e
    split at hg
    · rename_i q; subst q; exact ⟨vs, e⟩
    · cases hg
  · cases hg
theorem Rep.exa (RA : Rep D Z n0 h A) (ht : 10 ≤ t) {vs : List Value} (hA : A[a]? = some (t, vs)) : Exa Z h (n0 + a) (D t).1 := ((RA.2 a t vs hA).2 ht).1
theorem Rep.fld (RA : Rep D Z n0 h A) (ht : 10 ≤ t) (hg : h_fget A t a k = some v) {O n d : String} (hk : (D t).2[k]? = some (O, n, d)) : Fld Z h (n0 + a) O n d (lf n0 v) := by
  obtain ⟨vs, e, q⟩ := fget_s hg
  exact ((RA.2 a t vs e).2 ht).2 k O n d _ hk (by simp [q])
theorem Rep.arr (RA : Rep D Z n0 h A) (ht : t < 10) {vs : List Value} (hA : A[a]? = some (t, vs)) : ∃ cl : Cell, Arr Z h (n0 + a) cl (aty t) ∧ cl.slots.toList = vs.map (lf n0) ∧ vs.length < 2 ^ 31 ∧ ∀ v ∈ vs.map (lf n0), fits (aty t) v = true := by
  obtain ⟨cl, h1, h2, h3, h4⟩ := (RA.2 a t vs hA).1 ht
  exact ⟨cl, h1, h2, by simpa using h3, h4⟩
theorem Rep.at (RA : Rep D Z n0 h A) (ht : t < 10) {j : Int32} (hg : h_aget A t a j = some v) : ∃ cl : Cell, Arr Z h (n0 + a) cl (aty t) ∧ ¬ (j < 0 ∨ cl.slots.size ≤ j.toNatClampNeg) ∧ cl.slots[j.toNatClampNeg]? = some (lf n0 v) := by
  obtain ⟨hj, hg⟩ := aget_s hg
  obtain ⟨vs, e, q⟩ := fget_s hg
  obtain ⟨cl, h1, h2, -⟩ := RA.arr ht e
  have h4 : cl.slots[j.toNatClampNeg]? = some (lf n0 v) := by rw [← Array.getElem?_toList, h2]; simp [q]
  refine ⟨cl, h1, ?_, h4⟩
  rintro (c | c)
  · exact hj c
  · exact absurd (Array.getElem?_eq_some_iff.mp h4).1 (Nat.not_lt.mpr c)
theorem OKx.other {sl : Nat} {w : Value} {b : Addr} {vs : List Value} (X : OKx D Z h b t vs) (W : Wr h h' a sl w) (ne : b ≠ a) : OKx D Z h' b t vs := by
  refine ⟨fun q => ?_, fun q => ?_⟩
  · obtain ⟨cl, h1, h2⟩ := X.1 q; exact ⟨cl, h1.other W ne, h2⟩
  · obtain ⟨h1, h2⟩ := X.2 q; exact ⟨h1.wr W, fun k O n d v e1 e2 => (h2 k O n d v e1 e2).other W (Or.inl ne)⟩
theorem Rep.set (RA : Rep D Z n0 h A) {sl : Nat} {w : Value} {vs : List Value} (hl : a < A.length) (W : Wr h h' (n0 + a) sl w) (hN : OKx D Z h' (n0 + a) t (vs.map (lf n0))) : Rep D Z n0 h' (A.set a (t, vs)) := by
  refine ⟨by rw [W.size, RA.1, List.length_set], fun i t' vs' e => ?_⟩
  by_cases q : a = i
  · subst q
    rw [List.getElem?_set_self hl] at e
    obtain ⟨rfl, rfl⟩ := Prod.mk.inj (Option.some.inj e); exact hN
  · rw [List.getElem?_set_ne q] at e
    exact (RA.2 i t' vs' e).other W (fun z => q (Nat.add_left_cancel z).symm)
theorem Rep.wrF (sep : Sep Z (D t).2) (RA : Rep D Z n0 h A) (ht : 10 ≤ t) (hp : h_fset A t a k v = some A') {O n d : String} (hk : (D t).2[k]? = some (O, n, d)) (W : Wr h h' (n0 + a) (Jvm.RoadKit.slotOf Z O n d) (lf n0 v)) : Rep D Z n0 h' A' := by
  obtain ⟨vs, e, q, rfl⟩ := fset_s hp
  refine RA.set (List.getElem?_eq_some_iff.mp e).1 W ⟨fun z => absurd ht (by omega), fun _ => ?_⟩
  obtain ⟨h1, h2⟩ := (RA.2 a t vs e).2 ht
  refine ⟨h1.wr W, fun k' O' n' d' v' e1 e2 => ?_⟩
  rw [List.map_set] at e2
  by_cases c : k = k'
  · subst c
    rw [List.getElem?_set_self (by simpa using q)] at e2
    cases hk.symm.trans e1
    cases e2
    exact (h2 k O n d _ hk (List.getElem?_eq_getElem (by simpa using q))).same W
  · rw [List.getElem?_set_ne c] at e2
    exact (h2 k' O' n' d' v' e1 e2).other W (Or.inr (sep k' k O' n' d' O n d e1 hk (Ne.symm c)))
theorem Rep.wrA (RA : Rep D Z n0 h A) (ht : t < 10) {j : Int32} (hp : h_aset A t a j v = some A') (hft : fits (aty t) (lf n0 v) = true) (W : Wr h h' (n0 + a) j.toNatClampNeg (lf n0 v)) : Rep D Z n0 h' A' := by
  obtain ⟨-, hp⟩ := aset_s hp
  obtain ⟨vs, e, q, rfl⟩ := fset_s hp
  refine RA.set (List.getElem?_eq_some_iff.mp e).1 W ⟨fun z => ?_, fun z => absurd ht (by omega)⟩
  obtain ⟨cl, h1, h2, h3, h4⟩ := RA.arr ht e
  refine ⟨_, h1.same W, ?_, by simpa using h3, fun u hu => ?_⟩
  · show (cl.slots.setIfInBounds _ _).toList = _
    rw [Array.toList_setIfInBounds, h2, List.map_set]
  · rw [List.map_set] at hu
    rcases List.mem_or_eq_of_mem_set hu with q | q
    · exact h4 u q
    · rw [q]; exact hft
theorem Rep.into (RA : Rep D Z n0 h A) (ht : t < 10) {j : Int32} (hp : h_aset A t a j v = some A') : ∃ cl : Cell, Arr Z h (n0 + a) cl (aty t) ∧ ¬ (j < 0 ∨ cl.slots.size ≤ j.toNatClampNeg) := by
  obtain ⟨hj, hp⟩ := aset_s hp
  obtain ⟨vs, e, q, rfl⟩ := fset_s hp
  obtain ⟨cl, h1, h2, -⟩ := RA.arr ht e
  refine ⟨cl, h1, ?_⟩
  have : cl.slots.size = vs.length := by rw [← Array.length_toList, h2]; simp
  rintro (c | c)
  · exact hj c
  · omega
theorem OKx.ext {b : Addr} {vs : List Value} (X : OKx D Z h b t vs) (E : Ext h h') : OKx D Z h' b t vs := by
  refine ⟨fun q => ?_, fun q => ?_⟩
  · obtain ⟨cl, h1, h2⟩ := X.1 q; exact ⟨cl, h1.ext E, h2⟩
  · obtain ⟨h1, h2⟩ := X.2 q; exact ⟨h1.ext E, fun k O n d v e1 e2 => (h2 k O n d v e1 e2).ext E⟩
theorem ext_push (h : Heap) (cl : Cell) : Ext h (h.push cl) := ⟨by simp, fun a c e => by rw [Array.getElem?_push_lt (Array.getElem?_eq_some_iff.mp e).1]; exact (Array.getElem?_eq_getElem _).symm.trans e⟩
theorem Rep.push (RA : Rep D Z n0 h A) {cl : Cell} {vs : List Value} (hN : OKx D Z (h.push cl) h.size t (vs.map (lf n0))) : Rep D Z n0 (h.push cl) (A ++ [(t, vs)]) := by
  refine ⟨by rw [Array.size_push, RA.1, List.length_append]; rfl, fun i t' vs' e => ?_⟩
  by_cases q : i < A.length
  · rw [List.getElem?_append_left q] at e
    exact (RA.2 i t' vs' e).ext (ext_push h cl)
  · rw [List.getElem?_append_right (Nat.le_of_not_lt q)] at e
    have e0 : i - A.length = 0 := by
      have := (List.getElem?_eq_some_iff.mp e).1; simp at this; omega
    rw [e0] at e
    obtain ⟨rfl, rfl⟩ := Prod.mk.inj (Option.some.inj e)
    have : i = A.length := by omega
    have e2 : n0 + i = h.size := by rw [RA.1, this]
    rw [e2]; exact hN
end Facts
/-! reading and writing, in plain words -/
theorem eq64 {x y : Int} (h : (x - y) % 18446744073709551616 = 0) (x1 : -9223372036854775808 ≤ x) (x2 : x < 9223372036854775808) (y1 : -9223372036854775808 ≤ y) (y2 : y < 9223372036854775808) : x = y := by omega
theorem eq32 {x y : Int} (h : (x - y) % 4294967296 = 0) (x1 : -2147483648 ≤ x) (x2 : x < 2147483648) (y1 : -2147483648 ≤ y) (y2 : y < 2147483648) : x = y := by omega
theorem nar1 : nar .boolean (1 : Int32) = 1 := by decide
theorem nar0 : nar .boolean (0 : Int32) = 0 := by decide
theorem nclamp (j : Int32) : j.toNatClampNeg = j.toInt.toNat := rfl
theorem nneg {j : Int32} : ¬ j < 0 ↔ 0 ≤ j.toInt := by rw [Int32.lt_iff_toInt_lt]; show ¬ _ < (0 : Int) ↔ _; omega
theorem aset_ok {A : AH} {t a : Nat} {vs : List Value} {j : Int32} {v : Value} (hA : A[a]? = some (t, vs)) (h0 : 0 ≤ j.toInt) (h1 : j.toInt < vs.length) : h_aset A t a j v = some (A.set a (t, vs.set j.toInt.toNat v)) := by
  unfold h_aset; rw [if_neg (nneg.mpr h0)]; unfold h_fset; rw [hA]; simp only [nclamp]
  have : j.toInt.toNat < vs.length := by omega
  rw [if_pos ⟨trivial, this⟩]
theorem aget_ok {A : AH} {t a : Nat} {vs : List Value} {j : Int32} (hA : A[a]? = some (t, vs)) (h0 : 0 ≤ j.toInt) : h_aget A t a j = vs[j.toInt.toNat]? := by
  unfold h_aget; rw [if_neg (nneg.mpr h0)]; unfold h_fget; rw [hA]; simp only [nclamp, if_true]
theorem anew_ok {A : AH} {t cap : Nat} {n : Int32} {d : Value} (h0 : 0 ≤ n.toInt) (h1 : n.toInt ≤ cap) : h_anew A t cap n d = some (A.length, A ++ [(t, List.replicate n.toInt.toNat d)]) := by
  unfold h_anew; rw [nclamp, if_neg (by rintro (c | c); exact nneg.mpr h0 c; omega)]
theorem aset1 {t : Nat} {vs : List Value} {j : Int32} {v : Value} (h0 : 0 ≤ j.toInt) (h1 : j.toInt < vs.length) : h_aset [(t, vs)] t 0 j v = some [(t, vs.set j.toInt.toNat v)] := aset_ok rfl h0 h1
theorem aget1 {t : Nat} {vs : List Value} {j : Int32} (h0 : 0 ≤ j.toInt) : h_aget [(t, vs)] t 0 j = vs[j.toInt.toNat]? := aget_ok rfl h0
/-! ### a run that goes on to its end -/
def Go (p : Program) (e : Env) (below : List Frame) (S : State) (G : Outcome → State → Prop) : Prop := ∃ t o, Steps p.tables e below S t ∧ t.status = .running ∧ Ended t below o ∧ G o t
def QR (D : Dic) (Z : State) (n0 : Nat) (r : Option Value) (A : AH) (v : Option Value) (h : Heap) (L : List Loc) : Prop := v = r ∧ Fr n0 L ∧ Rep D Z n0 h A
def Fini (D : Dic) (Z : State) (n0 : Nat) (s : State) (R : Room) (r : Option Value) (A : AH) : Outcome → State → Prop := fun o t => ∃ v L, o = .returned v ∧ QR D Z n0 r A v t.heap L ∧ FrameEnd s o t L R.cells R.slots
def On (p : Program) (l : Launch) (e : Env) (R : Room) (s : State) (m : MethodId) (args : Array Value) (below : List Frame) (meth : Method) (c : Code) (D : Dic) (Z : State) (n0 : Nat) (T : State) (A : AH) (cells slots : Nat) : Prop :=
  ∃ locs, Stand p l e R s m args below meth c T locs cells slots ∧ Fr n0 locs ∧ Rep D Z n0 T.heap A
def Cx (p : Program) (l : Launch) (e : Env) (R : Room) (s : State) (m : MethodId) (meth : Method) (c : Code) (Z : State) (a0 : Array Value) (W : List Jvm.Cond) (own nm : String) (bytes : ByteArray) (ml : Nat) (rt : Option FieldType) : Prop :=
  p.tables.exec = Jvm.exec ∧ Z.Warmed39 s.vm ∧ s.vm.findClass own = some m.cls ∧ c.code = bytes ∧ c.maxLocals = ml ∧ meth.sig.returnType = rt ∧ meth.locks = false ∧ meth.name = nm ∧ ∀ d ∈ W, d.before a0 Z = true
def Met (l : Launch) (D : Dic) (Z : State) (n0 : Nat) (y : MethodName) (bytes : ByteArray) (ml : Nat) (rt : Option FieldType) (R : Room) (as : List Value) (A : AH) (r : Option Value) (A' : AH) : Prop :=
  ∀ (ws : List Jvm.Cond) (h0 : Heap), Rep D Z n0 h0 A → MetFree l y (head1 (Jvm.Cond.code y bytes ml rt :: ws) R) (fun a U => a = as.toArray ∧ Z.Warmed39 U.vm ∧ U.heap = h0) (fun _ _ _ _ _ => True) (fun _ U o U' => ∃ v L, o = .returned v ∧ QR D Z n0 r A' v U'.heap L ∧ FrameEnd U o U' L R.cells R.slots)
section Walk
variable {p : Program} {l : Launch} {e : Env} {R : Room} {s : State} {m : MethodId} {args : Array Value} {below : List Frame} {meth : Method} {c : Code} {Z : State} {a0 : Array Value} {W : List Jvm.Cond} {own nm : String} {bytes : ByteArray} {ml : Nat} {rt : Option FieldType} {D : Dic} {n0 : Nat} {T : State} {A A' : AH} {cells slots : Nat} {G : Outcome → State → Prop} {pc : Nat} {Ls : Array Slot} {st : List Value}
theorem go {S S' : State} (h : ∀ t, Steps p.tables e below S' t → Steps p.tables e below S t) (k : Go p e below S' G) : Go p e below S G := by
  obtain ⟨t, o, h1, h2⟩ := k; exact ⟨t, o, h t h1, h2⟩
theorem On.here (X : On p l e R s m args below meth c D Z n0 T A cells slots) : At T m c below := by obtain ⟨_, X, -⟩ := X; exact X.here
theorem On.more {cells' slots' : Nat} (X : On p l e R s m args below meth c D Z n0 T A cells slots) (hc : cells ≤ cells') (hs : slots ≤ slots') : On p l e R s m args below meth c D Z n0 T A cells' slots' := by
  obtain ⟨locs, X, N⟩ := X; exact ⟨locs, X.more hc hs, N⟩
theorem wd {d : Jvm.Cond} (K : Cx p l e R s m meth c Z a0 W own nm bytes ml rt) {i : Nat} (h : W[i]? = some d) : d.before a0 Z = true := K.2.2.2.2.2.2.2.2 d (List.mem_of_getElem? h)
theorem dc (K : Cx p l e R s m meth c Z a0 W own nm bytes ml rt) {r : Except DecodeError (Instr × Nat)} (h : decode bytes pc = r) : decode c.code pc = r := K.2.2.2.1 ▸ h
theorem ldcI (K : Cx p l e R s m meth c Z a0 W own nm bytes ml rt) (X : On p l e R s m args below meth c D Z n0 T A cells slots) {i idx : Nat} {v : Int32} (w : W[i]? = some (.constant own idx v)) (hd : decode bytes pc = .ok (.ldc idx, 2))
    {pc' : Nat} (hp : pc + 2 = pc') (k : Go p e below (T.setTop (mkF m pc'  Ls (.int v :: st))) G) : Go p e below (T.setTop (mkF m pc Ls st)) G := by
  subst hp
  obtain ⟨locs, X, -⟩ := X
  exact go (X.ldcInt K.1 K.2.2.1 (mvT K.2.1 (wd K w)) (g := mkF m pc Ls st) rfl (dc K hd)) k
theorem ldcwI (K : Cx p l e R s m meth c Z a0 W own nm bytes ml rt) (X : On p l e R s m args below meth c D Z n0 T A cells slots) {i idx : Nat} {v : Int32} (w : W[i]? = some (.constant own idx v)) (hd : decode bytes pc = .ok (.ldc_w idx, 3))
    {pc' : Nat} (hp : pc + 3 = pc') (k : Go p e below (T.setTop (mkF m pc'  Ls (.int v :: st))) G) : Go p e below (T.setTop (mkF m pc Ls st)) G := by
  subst hp
  obtain ⟨locs, X, -⟩ := X
  exact go (X.ldcwInt K.1 K.2.2.1 (mvT K.2.1 (wd K w)) (g := mkF m pc Ls st) rfl (dc K hd)) k
theorem ldcL (K : Cx p l e R s m meth c Z a0 W own nm bytes ml rt) (X : On p l e R s m args below meth c D Z n0 T A cells slots) {i idx : Nat} {v : Int64} (w : W[i]? = some (.constantLong own idx v)) (hd : decode bytes pc = .ok (.ldc2_w idx, 3))
    {pc' : Nat} (hp : pc + 3 = pc') (k : Go p e below (T.setTop (mkF m pc'  Ls (.long v :: st))) G) : Go p e below (T.setTop (mkF m pc Ls st)) G := by
  subst hp
  obtain ⟨locs, X, -⟩ := X
  exact go (X.ldc2Long K.1 K.2.2.1 (mvT K.2.1 (wd K w)) (g := mkF m pc Ls st) rfl (dc K hd)) k
/-! the returns -/
theorem retV (K : Cx p l e R s m meth c Z a0 W own nm bytes ml none) (X : On p l e R s m args below meth c D Z n0 T A cells slots) (hc : cells ≤ R.cells) (hs : slots ≤ R.slots) (hd : decode bytes pc = .ok (.return_, 1)) :
    Go p e below (T.setTop (mkF m pc Ls [])) (Fini D Z n0 s R none A) := by
  obtain ⟨locs, X, N, RA⟩ := X
  obtain ⟨fs, hr, hrun, hended, hW, hsame⟩ := X.leave (v := none) (fun _ => rfl) K.2.2.2.2.2.2.1
  exact ⟨_, _, X.returnOut K.1 K.2.2.2.2.2.1 (dc K hd) hr, hrun, hended, none, locs, rfl, ⟨rfl, N, RA⟩, ⟨_, rfl⟩, hW, hsame.mono hc hs⟩
theorem retX {t : FieldType} {i : Instr} {w : Value} (K : Cx p l e R s m meth c Z a0 W own nm bytes ml (some t)) (X : On p l e R s m args below meth c D Z n0 T A cells slots) (hc : cells ≤ R.cells) (hs : slots ≤ R.slots) (hd : decode bytes pc = .ok (i, 1)) (hn : narrow t w = w)
    (hi : (i = .ireturn ∧ (t = .int ∨ t = .boolean ∨ t = .byte ∨ t = .char ∨ t = .short) ∧ ∃ z, w = .int z) ∨ (i = .lreturn ∧ t = .long ∧ ∃ z, w = .long z) ∨ (i = .dreturn ∧ t = .double ∧ ∃ z, w = .double z) ∨ (i = .freturn ∧ t = .float ∧ ∃ z, w = .float z) ∨ (i = .areturn ∧ t.isReference = true ∧ w.isRef = true)) :
    Go p e below (T.setTop (mkF m pc Ls (w :: st))) (Fini D Z n0 s R (some w) A) := by
  obtain ⟨locs, X, N, RA⟩ := X
  obtain ⟨fs, hr, hrun, hended, hW, hsame⟩ := X.leave (v := some w) (fun h => by rw [K.2.2.2.2.2.1] at h; cases h) K.2.2.2.2.2.2.1
  exact ⟨_, _, Jvm.RoadKit.retOut X K.1 K.2.2.2.2.2.1 hn hi (dc K hd) hr, hrun, hended, some w, locs, rfl, ⟨rfl, N, RA⟩, ⟨_, rfl⟩, hW, hsame.mono hc hs⟩
theorem retI {z : Int32} (K : Cx p l e R s m meth c Z a0 W own nm bytes ml (some .int)) (X : On p l e R s m args below meth c D Z n0 T A cells slots) (hc : cells ≤ R.cells) (hs : slots ≤ R.slots) (hd : decode bytes pc = .ok (.ireturn, 1)) :
    Go p e below (T.setTop (mkF m pc Ls (.int z :: st))) (Fini D Z n0 s R (some (.int z)) A) := retX K X hc hs hd rfl (Or.inl ⟨rfl, Or.inl rfl, z, rfl⟩)
theorem retJ {z : Int64} (K : Cx p l e R s m meth c Z a0 W own nm bytes ml (some .long)) (X : On p l e R s m args below meth c D Z n0 T A cells slots) (hc : cells ≤ R.cells) (hs : slots ≤ R.slots) (hd : decode bytes pc = .ok (.lreturn, 1)) :
    Go p e below (T.setTop (mkF m pc Ls (.long z :: st))) (Fini D Z n0 s R (some (.long z)) A) := retX K X hc hs hd rfl (Or.inr (Or.inl ⟨rfl, rfl, z, rfl⟩))
theorem retR {a : Addr} {t : FieldType} (K : Cx p l e R s m meth c Z a0 W own nm bytes ml (some t)) (ht : t.isReference = true) (hn : narrow t (.ref a) = .ref a) (X : On p l e R s m args below meth c D Z n0 T A cells slots) (hc : cells ≤ R.cells) (hs : slots ≤ R.slots) (hd : decode bytes pc = .ok (.areturn, 1)) :
    Go p e below (T.setTop (mkF m pc Ls (.ref a :: st))) (Fini D Z n0 s R (some (.ref a)) A) := retX K X hc hs hd hn (Or.inr (Or.inr (Or.inr (Or.inr ⟨rfl, ht, rfl⟩))))
theorem retB {z : Int32} {t : FieldType} (K : Cx p l e R s m meth c Z a0 W own nm bytes ml (some t)) (ht : t = .boolean ∨ t = .byte ∨ t = .char ∨ t = .short) (X : On p l e R s m args below meth c D Z n0 T A cells slots) (hc : cells ≤ R.cells) (hs : slots ≤ R.slots) (hd : decode bytes pc = .ok (.ireturn, 1)) :
    Go p e below (T.setTop (mkF m pc Ls (.int z :: st))) (Fini D Z n0 s R (some (.int (nar t z))) A) := by
  obtain ⟨locs, X, N, RA⟩ := X
  obtain ⟨fs, hr, hrun, hended, hW, hsame⟩ := X.leave (v := some (.int (nar t z))) (fun h => by rw [K.2.2.2.2.2.1] at h; cases h) K.2.2.2.2.2.2.1
  exact ⟨_, _, Jvm.RoadKit.retN X K.1 K.2.2.2.2.2.1 ht (dc K hd) hr, hrun, hended, some (.int (nar t z)), locs, rfl, ⟨rfl, N, RA⟩, ⟨_, rfl⟩, hW, hsame.mono hc hs⟩
/-! fields -/
theorem getf (K : Cx p l e R s m meth c Z a0 W own nm bytes ml rt) (X : On p l e R s m args below meth c D Z n0 T A cells slots) {i idx t f a : Nat} {O n d : String} {v : Value} (w : W[i]? = some (.fieldLink own idx O n d)) (hd : decode bytes pc = .ok (.getfield idx, 3))
    (ht : 10 ≤ t) (hk : (D t).2[f]? = some (O, n, d)) (hg : h_fget A t a f = some v)
    {pc' : Nat} (hp : pc + 3 = pc') (k : ∀ T', On p l e R s m args below meth c D Z n0 T' A cells slots → Go p e below (T'.setTop (mkF m pc'  Ls (lf n0 v :: st))) G) : Go p e below (T.setTop (mkF m pc Ls (.ref (n0 + a) :: st))) G := by
  subst hp
  obtain ⟨locs, X, N, RA⟩ := X
  obtain ⟨T', X', e', stp⟩ := getF X K.1 K.2.1 K.2.2.1 (host := "") (Or.inl (wd K w)) Via.refl rfl (RA.fld ht hg hk) (g := mkF m pc Ls (.ref (n0 + a) :: st)) rfl rfl (dc K hd)
  exact go stp (k T' ⟨locs, X', N, by rw [e']; exact RA⟩)
theorem getfI (K : Cx p l e R s m meth c Z a0 W own nm bytes ml rt) (X : On p l e R s m args below meth c D Z n0 T A cells slots) {i idx t f a : Nat} {O n d : String} {v : Int32} (w : W[i]? = some (.fieldLink own idx O n d)) (hd : decode bytes pc = .ok (.getfield idx, 3))
    (ht : 10 ≤ t) (hk : (D t).2[f]? = some (O, n, d)) (hg : asI (h_fget A t a f) = some v)
    {pc' : Nat} (hp : pc + 3 = pc') (k : ∀ T', On p l e R s m args below meth c D Z n0 T' A cells slots → Go p e below (T'.setTop (mkF m pc' Ls (.int v :: st))) G) : Go p e below (T.setTop (mkF m pc Ls (.ref (n0 + a) :: st))) G := getf K X w hd ht hk (asI_s hg) hp k
theorem getfJ (K : Cx p l e R s m meth c Z a0 W own nm bytes ml rt) (X : On p l e R s m args below meth c D Z n0 T A cells slots) {i idx t f a : Nat} {O n d : String} {v : Int64} (w : W[i]? = some (.fieldLink own idx O n d)) (hd : decode bytes pc = .ok (.getfield idx, 3))
    (ht : 10 ≤ t) (hk : (D t).2[f]? = some (O, n, d)) (hg : asJ (h_fget A t a f) = some v)
    {pc' : Nat} (hp : pc + 3 = pc') (k : ∀ T', On p l e R s m args below meth c D Z n0 T' A cells slots → Go p e below (T'.setTop (mkF m pc' Ls (.long v :: st))) G) : Go p e below (T.setTop (mkF m pc Ls (.ref (n0 + a) :: st))) G := getf K X w hd ht hk (asJ_s hg) hp k
theorem getfR (K : Cx p l e R s m meth c Z a0 W own nm bytes ml rt) (X : On p l e R s m args below meth c D Z n0 T A cells slots) {i idx t f a : Nat} {O n d : String} {v : Nat} (w : W[i]? = some (.fieldLink own idx O n d)) (hd : decode bytes pc = .ok (.getfield idx, 3))
    (ht : 10 ≤ t) (hk : (D t).2[f]? = some (O, n, d)) (hg : asR (h_fget A t a f) = some v)
    {pc' : Nat} (hp : pc + 3 = pc') (k : ∀ T', On p l e R s m args below meth c D Z n0 T' A cells slots → Go p e below (T'.setTop (mkF m pc' Ls (.ref (n0 + v) :: st))) G) : Go p e below (T.setTop (mkF m pc Ls (.ref (n0 + a) :: st))) G := getf K X w hd ht hk (asR_s hg) hp k
theorem putf (K : Cx p l e R s m meth c Z a0 W own nm bytes ml rt) (sep : ∀ t, Sep Z (D t).2) (X : On p l e R s m args below meth c D Z n0 T A cells slots) {i idx t f a kk i2 : Nat} {O n d : String} {va v : Value} {ty : FieldType} (w : W[i]? = some (.fieldLink own idx O n d)) (hd : decode bytes pc = .ok (.putfield idx, 3))
    (ht : 10 ≤ t) (hk : (D t).2[f]? = some (O, n, d)) (wl : (Jvm.Cond.lays (D t).1 O n d).before a0 Z = true ∨ ((Jvm.Cond.laysFinal (D t).1 O n d).before a0 Z = true ∧ own = O ∧ nm = "<init>")) (wi : W[i2]? = some (.instantiable (D t).1 kk))
    (hty : parseFieldDescriptor d = some ty) (hn : narrow ty v = lf n0 va) (hf : fits ty (lf n0 va) = true) (hp : h_fset A t a f va = some A')
    {pc' : Nat} (hp : pc + 3 = pc') (k : ∀ T', On p l e R s m args below meth c D Z n0 T' A' cells slots → Go p e below (T'.setTop (mkF m pc'  Ls st)) G) : Go p e below (T.setTop (mkF m pc Ls (v :: .ref (n0 + a) :: st))) G := by
  subst hp
  obtain ⟨locs, X, N, RA⟩ := X
  obtain ⟨vs, hA, hlt, -⟩ := fset_s hp
  have F := RA.fld ht (show h_fget A t a f = some vs[f] by simp [h_fget, hA]) hk
  obtain ⟨T', h', X', e', W', stp⟩ := putFN X K.1 K.2.1 K.2.2.1 (wd K w) Via.refl rfl F (RA.exa ht hA) (wl.imp id fun q => ⟨q.1, q.2.1, K.2.2.2.2.2.2.2.1.trans q.2.2⟩) (wd K wi) hty hn hf (g := mkF m pc Ls (v :: .ref (n0 + a) :: st)) rfl rfl (dc K hd)
  exact go stp (k T' ⟨_, X', Fr.snoc X' N (Nat.le_add_right _ _), by rw [e']; exact RA.wrF (sep t) ht hp hk W'⟩)
/-! new -/
theorem newo (K : Cx p l e R s m meth c Z a0 W own nm bytes ml rt) (X : On p l e R s m args below meth c D Z n0 T A cells slots) {i1 i2 i3 idx n t : Nat} {ds : List Value} (w1 : W[i1]? = some (.classLink own idx (D t).1)) (w2 : W[i2]? = some (.instantiable (D t).1 n)) (w3 : W[i3]? = some (.initialized (D t).1))
    (hd : decode bytes pc = .ok (.new idx, 3)) (hc : cells + 1 ≤ R.cells) (hs : slots + n ≤ R.slots) (ht : 10 ≤ t) (hds : ∀ (k : Nat) (O f d : String) (v : Value), (D t).2[k]? = some (O, f, d) → ds[k]? = some v → ∃ ty, parseFieldDescriptor d = some ty ∧ Laid Z a0 (D t).1 O f d ∧ lf n0 v = defaultValue ty)
    {q : Nat × AH} (hq : h_onew A t ds = some q)
    {pc' : Nat} (hp : pc + 3 = pc') (k : ∀ T', On p l e R s m args below meth c D Z n0 T' q.2 (cells + 1) (slots + n) → Go p e below (T'.setTop (mkF m pc'  Ls (.ref (n0 + q.1) :: st))) G) : Go p e below (T.setTop (mkF m pc Ls st)) G := by
  subst hp
  cases hq
  obtain ⟨locs, X, N, RA⟩ := X
  obtain ⟨vm', cC, kC, h1, h2, h3, h4, X', stp⟩ := X.newCold K.1 K.2.2.1 (mvT K.2.1 (wd K w1)) (mvT K.2.1 (wd K w2)) (mvT K.2.1 (wd K w3)) (g := mkF m pc Ls st) rfl (dc K hd) hc hs
  have hZ := K.2.1
  rw [hZ.alike.findClass] at h1
  obtain ⟨kZ, z1, -⟩ := Vm.findClass_spec h1
  obtain ⟨k', z2, z3⟩ := hZ.alike.2.2 _ _ z1
  cases h2.symm.trans z2
  have ei : kC.instanceTypes = kZ.instanceTypes := by rw [z3]
  have hN : (T.heap.push { cls := cC, slots := kC.instanceTypes.map defaultValue, vm := .none })[T.heap.size]? = some { cls := cC, slots := kC.instanceTypes.map defaultValue, vm := .none } := by simp
  have hsz := RA.1
  refine go stp ?_
  rw [hsz]
  refine k _ ⟨locs, X', N, ?_⟩
  show Rep D Z n0 (T.heap.push _) _
  refine RA.push ⟨fun z => absurd ht (by omega), fun _ => ⟨⟨_, kZ, hN, h1, z1, rfl, fun _ => by simp [ei]⟩, fun j O f d v e1 e2 => ?_⟩⟩
  rw [List.getElem?_map, Option.map_eq_some_iff] at e2
  obtain ⟨v0, e2, rfl⟩ := e2
  obtain ⟨ty, p1, p2, p3⟩ := hds j O f d v0 e1 e2
  obtain ⟨c1, k1, cf, kf, i, f', a1, a2, a3, a4, a5, a6, -⟩ := p2.spec
  cases h1.symm.trans a1
  cases z1.symm.trans a2
  exact ⟨_, cf, kf, i, f', hN, a3, a4, by simp, rfl, a5, by simp [ei, a6, (State.fieldFound?_type a3 p1).2, p3]⟩
theorem newa (K : Cx p l e R s m meth c Z a0 W own nm bytes ml rt) (X : On p l e R s m args below meth c D Z n0 T A cells slots) {i1 t cap : Nat} {at' : ArrayType} {n : Int32} {dv : Value} (w1 : W[i1]? = some (.arrayClass (newarray.typeOf at'))) (hd : decode bytes pc = .ok (.newarray at', 2))
    (hb : cap * 8 ≤ 536870912) (hc : cells + 1 ≤ R.cells) (hs : slots + cap ≤ R.slots) (ht : t < 10) (hty : newarray.typeOf at' = aty t) (hdv : lf n0 dv = defaultValue (aty t)) {q : Nat × AH} (hq : h_anew A t cap n dv = some q)
    {pc' : Nat} (hp : pc + 2 = pc') (k : ∀ T', On p l e R s m args below meth c D Z n0 T' q.2 (cells + 1) (slots + cap) → Go p e below (T'.setTop (mkF m pc'  Ls (.ref (n0 + q.1) :: st))) G) : Go p e below (T.setTop (mkF m pc Ls (.int n :: st))) G := by
  subst hp
  unfold h_anew at hq
  split at hq
  · cases hq
  rename_i hn
  cases hq
  have hn1 : ¬ n < 0 := fun z => hn (Or.inl z)
  have hn2 : n.toNatClampNeg ≤ cap := Nat.le_of_not_lt fun z => hn (Or.inr z)
  have hn3 : n.toNatClampNeg < 2 ^ 31 := (back32 hn1).2
  obtain ⟨locs, X, N, RA⟩ := X
  have hZ := K.2.1
  have hcb : componentBytes (newarray.typeOf at') ≤ 8 := by cases at' <;> decide
  obtain ⟨cA, kA, comp, h1, h2, h3, X', stp⟩ := X.newarrayPrim K.1 (mvA hZ (wd K w1)) (g := mkF m pc Ls (.int n :: st)) rfl (dc K hd) rfl hn1 (Nat.le_trans (Nat.mul_le_mul hn2 hcb) hb) hc (by omega)
  rw [hZ.alike.findClass] at h1
  obtain ⟨kZ, z1, -⟩ := Vm.findClass_spec h1
  obtain ⟨k', z2, z3⟩ := hZ.alike.2.2 _ _ z1
  cases h2.symm.trans z2
  refine go stp ?_
  rw [RA.1]
  refine k _ ⟨locs, X'.more (Nat.le_refl _) (by omega), N, ?_⟩
  show Rep D Z n0 (T.heap.push _) _
  refine RA.push ⟨fun _ => ⟨_, ⟨by simp; rfl, ⟨by simp, kZ, z1, comp, by rw [← hty, ← h3, z3]⟩, by simp⟩, ?_, by simpa using hn3, fun v hv => ?_⟩, fun z => absurd ht (by omega)⟩
  · simp [hty, hdv]
  · rw [List.map_replicate] at hv
    rw [List.eq_of_mem_replicate hv, hdv]; cases aty t <;> rfl
/-! arrays -/
theorem h_alen' (K : Cx p l e R s m meth c Z a0 W own nm bytes ml rt) (X : On p l e R s m args below meth c D Z n0 T A cells slots) {t a : Nat} {n : Int32} (ht : t < 10) (hg : h_alen A t a = some n) (hd : decode bytes pc = .ok (.arraylength, 1))
    {pc' : Nat} (hp : pc + 1 = pc') (k : Go p e below (T.setTop (mkF m pc'  Ls (.int n :: st))) G) : Go p e below (T.setTop (mkF m pc Ls (.ref (n0 + a) :: st))) G := by
  subst hp
  obtain ⟨locs, X, N, RA⟩ := X
  unfold h_alen at hg
  split at hg
  · rename_i t' vs e
    split at hg
    · rename_i q; subst q
      cases hg
      obtain ⟨cl, h1, h2, -⟩ := RA.arr ht e
      have : cl.slots.size = vs.length := by rw [← Array.length_toList, h2]; simp
      rw [← this] at k
      exact go (X.arraylength K.1 h1.1 (State.isArrayOf_alike K.2.1.alike h1.2.1) (g := mkF m pc Ls (.ref (n0 + a) :: st)) rfl rfl (dc K hd)) k
    · cases hg
  · cases hg
theorem ald0 (K : Cx p l e R s m meth c Z a0 W own nm bytes ml rt) (X : On p l e R s m args below meth c D Z n0 T A cells slots) {a : Nat} {j : Int32} {v : Value} (hg : h_aget A 0 a j = some v) (hd : decode bytes pc = .ok (.iaload, 1))
    {pc' : Nat} (hp : pc + 1 = pc') (k : Go p e below (T.setTop (mkF m pc'  Ls (lf n0 v :: st))) G) : Go p e below (T.setTop (mkF m pc Ls (.int j :: .ref (n0 + a) :: st))) G := by
  subst hp
  obtain ⟨locs, X, N, RA⟩ := X
  obtain ⟨cl, h1, h2, h3⟩ := RA.at (by decide) hg
  exact go (X.iaload K.1 h1.1 (State.isArrayOf_alike K.2.1.alike h1.2.1) h1.2.2 h2 h3 (g := mkF m pc Ls (.int j :: .ref (n0 + a) :: st)) rfl rfl (dc K hd)) k
theorem ald1 (K : Cx p l e R s m meth c Z a0 W own nm bytes ml rt) (X : On p l e R s m args below meth c D Z n0 T A cells slots) {a : Nat} {j : Int32} {v : Value} (hg : h_aget A 1 a j = some v) (hd : decode bytes pc = .ok (.caload, 1))
    {pc' : Nat} (hp : pc + 1 = pc') (k : Go p e below (T.setTop (mkF m pc'  Ls (lf n0 v :: st))) G) : Go p e below (T.setTop (mkF m pc Ls (.int j :: .ref (n0 + a) :: st))) G := by
  subst hp
  obtain ⟨locs, X, N, RA⟩ := X
  obtain ⟨cl, h1, h2, h3⟩ := RA.at (by decide) hg
  exact go (X.caload K.1 h1.1 (State.isArrayOf_alike K.2.1.alike h1.2.1) h1.2.2 h2 h3 (g := mkF m pc Ls (.int j :: .ref (n0 + a) :: st)) rfl rfl (dc K hd)) k
theorem ald2 (K : Cx p l e R s m meth c Z a0 W own nm bytes ml rt) (X : On p l e R s m args below meth c D Z n0 T A cells slots) {a : Nat} {j : Int32} {v : Value} (hg : h_aget A 2 a j = some v) (hd : decode bytes pc = .ok (.baload, 1))
    {pc' : Nat} (hp : pc + 1 = pc') (k : Go p e below (T.setTop (mkF m pc'  Ls (lf n0 v :: st))) G) : Go p e below (T.setTop (mkF m pc Ls (.int j :: .ref (n0 + a) :: st))) G := by
  subst hp
  obtain ⟨locs, X, N, RA⟩ := X
  obtain ⟨cl, h1, h2, h3⟩ := RA.at (by decide) hg
  exact go (X.baloadBytes K.1 h1.1 (State.isArrayOf_alike K.2.1.alike h1.2.1) h1.2.2 h2 h3 (g := mkF m pc Ls (.int j :: .ref (n0 + a) :: st)) rfl rfl (dc K hd)) k
theorem ald3 (K : Cx p l e R s m meth c Z a0 W own nm bytes ml rt) (X : On p l e R s m args below meth c D Z n0 T A cells slots) {a : Nat} {j : Int32} {v : Value} (hg : h_aget A 3 a j = some v) (hd : decode bytes pc = .ok (.laload, 1))
    {pc' : Nat} (hp : pc + 1 = pc') (k : Go p e below (T.setTop (mkF m pc'  Ls (lf n0 v :: st))) G) : Go p e below (T.setTop (mkF m pc Ls (.int j :: .ref (n0 + a) :: st))) G := by
  subst hp
  obtain ⟨locs, X, N, RA⟩ := X
  obtain ⟨cl, h1, h2, h3⟩ := RA.at (by decide) hg
  exact go (X.laload K.1 h1.1 (State.isArrayOf_alike K.2.1.alike h1.2.1) h1.2.2 h2 h3 (g := mkF m pc Ls (.int j :: .ref (n0 + a) :: st)) rfl rfl (dc K hd)) k
theorem ald4 (K : Cx p l e R s m meth c Z a0 W own nm bytes ml rt) (X : On p l e R s m args below meth c D Z n0 T A cells slots) {a : Nat} {j : Int32} {v : Value} (hg : h_aget A 4 a j = some v) (hd : decode bytes pc = .ok (.baload, 1))
    {pc' : Nat} (hp : pc + 1 = pc') (k : Go p e below (T.setTop (mkF m pc'  Ls (lf n0 v :: st))) G) : Go p e below (T.setTop (mkF m pc Ls (.int j :: .ref (n0 + a) :: st))) G := by
  subst hp
  obtain ⟨locs, X, N, RA⟩ := X
  obtain ⟨cl, h1, h2, h3⟩ := RA.at (by decide) hg
  exact go (X.baloadBooleans K.1 h1.1 (State.isArrayOf_alike K.2.1.alike h1.2.1) h1.2.2 h2 h3 (g := mkF m pc Ls (.int j :: .ref (n0 + a) :: st)) rfl rfl (dc K hd)) k
theorem ld0 (K : Cx p l e R s m meth c Z a0 W own nm bytes ml rt) (X : On p l e R s m args below meth c D Z n0 T A cells slots) {a : Nat} {j : Int32} {v : Int32} (hg : asI (h_aget A 0 a j) = some v) (hd : decode bytes pc = .ok (.iaload, 1))
    {pc' : Nat} (hp : pc + 1 = pc') (k : Go p e below (T.setTop (mkF m pc' Ls (.int v :: st))) G) : Go p e below (T.setTop (mkF m pc Ls (.int j :: .ref (n0 + a) :: st))) G := ald0 K X (asI_s hg) hd hp k
theorem ld1 (K : Cx p l e R s m meth c Z a0 W own nm bytes ml rt) (X : On p l e R s m args below meth c D Z n0 T A cells slots) {a : Nat} {j : Int32} {v : Int32} (hg : asI (h_aget A 1 a j) = some v) (hd : decode bytes pc = .ok (.caload, 1))
    {pc' : Nat} (hp : pc + 1 = pc') (k : Go p e below (T.setTop (mkF m pc' Ls (.int v :: st))) G) : Go p e below (T.setTop (mkF m pc Ls (.int j :: .ref (n0 + a) :: st))) G := ald1 K X (asI_s hg) hd hp k
theorem ld2 (K : Cx p l e R s m meth c Z a0 W own nm bytes ml rt) (X : On p l e R s m args below meth c D Z n0 T A cells slots) {a : Nat} {j : Int32} {v : Int32} (hg : asI (h_aget A 2 a j) = some v) (hd : decode bytes pc = .ok (.baload, 1))
    {pc' : Nat} (hp : pc + 1 = pc') (k : Go p e below (T.setTop (mkF m pc' Ls (.int v :: st))) G) : Go p e below (T.setTop (mkF m pc Ls (.int j :: .ref (n0 + a) :: st))) G := ald2 K X (asI_s hg) hd hp k
theorem ld3 (K : Cx p l e R s m meth c Z a0 W own nm bytes ml rt) (X : On p l e R s m args below meth c D Z n0 T A cells slots) {a : Nat} {j : Int32} {v : Int64} (hg : asJ (h_aget A 3 a j) = some v) (hd : decode bytes pc = .ok (.laload, 1))
    {pc' : Nat} (hp : pc + 1 = pc') (k : Go p e below (T.setTop (mkF m pc' Ls (.long v :: st))) G) : Go p e below (T.setTop (mkF m pc Ls (.int j :: .ref (n0 + a) :: st))) G := ald3 K X (asJ_s hg) hd hp k
theorem ld4 (K : Cx p l e R s m meth c Z a0 W own nm bytes ml rt) (X : On p l e R s m args below meth c D Z n0 T A cells slots) {a : Nat} {j : Int32} {v : Int32} (hg : asI (h_aget A 4 a j) = some v) (hd : decode bytes pc = .ok (.baload, 1))
    {pc' : Nat} (hp : pc + 1 = pc') (k : Go p e below (T.setTop (mkF m pc' Ls (.int v :: st))) G) : Go p e below (T.setTop (mkF m pc Ls (.int j :: .ref (n0 + a) :: st))) G := ald4 K X (asI_s hg) hd hp k
theorem ast0 (K : Cx p l e R s m meth c Z a0 W own nm bytes ml rt) (X : On p l e R s m args below meth c D Z n0 T A cells slots) {a : Nat} {j x : Int32} (hp : h_aset A 0 a j (.int x) = some A') (hd : decode bytes pc = .ok (.iastore, 1))
    {pc' : Nat} (hp : pc + 1 = pc') (k : ∀ T', On p l e R s m args below meth c D Z n0 T' A' cells slots → Go p e below (T'.setTop (mkF m pc'  Ls st)) G) : Go p e below (T.setTop (mkF m pc Ls (.int x :: .int j :: .ref (n0 + a) :: st))) G := by
  subst hp
  obtain ⟨locs, X, N, RA⟩ := X
  obtain ⟨cl, h1, h2⟩ := RA.into (by decide) hp
  obtain ⟨T', h', X', e', W', stp⟩ := stI X K.1 K.2.1 rfl h1 h2 (g := mkF m pc Ls (.int x :: .int j :: .ref (n0 + a) :: st)) rfl rfl (dc K hd)
  exact go stp (k T' ⟨_, X', Fr.snoc X' N (Nat.le_add_right _ _), by rw [e']; exact RA.wrA (by decide) hp rfl W'⟩)
theorem ast1 (K : Cx p l e R s m meth c Z a0 W own nm bytes ml rt) (X : On p l e R s m args below meth c D Z n0 T A cells slots) {a : Nat} {j x : Int32} (hp : h_aset A 1 a j (.int (nar .char x)) = some A') (hd : decode bytes pc = .ok (.castore, 1))
    {pc' : Nat} (hp : pc + 1 = pc') (k : ∀ T', On p l e R s m args below meth c D Z n0 T' A' cells slots → Go p e below (T'.setTop (mkF m pc'  Ls st)) G) : Go p e below (T.setTop (mkF m pc Ls (.int x :: .int j :: .ref (n0 + a) :: st))) G := by
  subst hp
  obtain ⟨locs, X, N, RA⟩ := X
  obtain ⟨cl, h1, h2⟩ := RA.into (by decide) hp
  obtain ⟨T', h', X', e', W', stp⟩ := stC X K.1 K.2.1 rfl h1 h2 (g := mkF m pc Ls (.int x :: .int j :: .ref (n0 + a) :: st)) rfl rfl (dc K hd)
  exact go stp (k T' ⟨_, X', Fr.snoc X' N (Nat.le_add_right _ _), by rw [e']; exact RA.wrA (by decide) hp (fits_nar_char _) W'⟩)
theorem ast2 (K : Cx p l e R s m meth c Z a0 W own nm bytes ml rt) (X : On p l e R s m args below meth c D Z n0 T A cells slots) {a : Nat} {j x : Int32} (hp : h_aset A 2 a j (.int (nar .byte x)) = some A') (hd : decode bytes pc = .ok (.bastore, 1))
    {pc' : Nat} (hp : pc + 1 = pc') (k : ∀ T', On p l e R s m args below meth c D Z n0 T' A' cells slots → Go p e below (T'.setTop (mkF m pc'  Ls st)) G) : Go p e below (T.setTop (mkF m pc Ls (.int x :: .int j :: .ref (n0 + a) :: st))) G := by
  subst hp
  obtain ⟨locs, X, N, RA⟩ := X
  obtain ⟨cl, h1, h2⟩ := RA.into (by decide) hp
  obtain ⟨T', h', X', e', W', stp⟩ := stB X K.1 K.2.1 rfl h1 h2 (g := mkF m pc Ls (.int x :: .int j :: .ref (n0 + a) :: st)) rfl rfl (dc K hd)
  exact go stp (k T' ⟨_, X', Fr.snoc X' N (Nat.le_add_right _ _), by rw [e']; exact RA.wrA (by decide) hp (fits_nar_byte _) W'⟩)
theorem ast3 (K : Cx p l e R s m meth c Z a0 W own nm bytes ml rt) (X : On p l e R s m args below meth c D Z n0 T A cells slots) {a : Nat} {j : Int32} {x : Int64} (hp : h_aset A 3 a j (.long x) = some A') (hd : decode bytes pc = .ok (.lastore, 1))
    {pc' : Nat} (hp : pc + 1 = pc') (k : ∀ T', On p l e R s m args below meth c D Z n0 T' A' cells slots → Go p e below (T'.setTop (mkF m pc'  Ls st)) G) : Go p e below (T.setTop (mkF m pc Ls (.long x :: .int j :: .ref (n0 + a) :: st))) G := by
  subst hp
  obtain ⟨locs, X, N, RA⟩ := X
  obtain ⟨cl, h1, h2⟩ := RA.into (by decide) hp
  obtain ⟨T', h', X', e', W', stp⟩ := stJ X K.1 K.2.1 rfl h1 h2 (g := mkF m pc Ls (.long x :: .int j :: .ref (n0 + a) :: st)) rfl rfl (dc K hd)
  exact go stp (k T' ⟨_, X', Fr.snoc X' N (Nat.le_add_right _ _), by rw [e']; exact RA.wrA (by decide) hp rfl W'⟩)
theorem ast4 (K : Cx p l e R s m meth c Z a0 W own nm bytes ml rt) (X : On p l e R s m args below meth c D Z n0 T A cells slots) {a : Nat} {j x : Int32} (hp : h_aset A 4 a j (.int (nar .boolean x)) = some A') (hd : decode bytes pc = .ok (.bastore, 1))
    {pc' : Nat} (hp : pc + 1 = pc') (k : ∀ T', On p l e R s m args below meth c D Z n0 T' A' cells slots → Go p e below (T'.setTop (mkF m pc'  Ls st)) G) : Go p e below (T.setTop (mkF m pc Ls (.int x :: .int j :: .ref (n0 + a) :: st))) G := by
  subst hp
  obtain ⟨locs, X, N, RA⟩ := X
  obtain ⟨cl, h1, h2⟩ := RA.into (by decide) hp
  obtain ⟨T', h', X', e', W', stp⟩ := stZ X K.1 K.2.1 rfl h1 h2 (g := mkF m pc Ls (.int x :: .int j :: .ref (n0 + a) :: st)) rfl rfl (dc K hd)
  exact go stp (k T' ⟨_, X', Fr.snoc X' N (Nat.le_add_right _ _), by rw [e']; exact RA.wrA (by decide) hp (fits_nar_bool _) W'⟩)
/-! calls -/
theorem obj (K : Cx p l e R s m meth c Z a0 W own nm bytes ml rt) (X : On p l e R s m args below meth c D Z n0 T A cells slots) {i1 i2 i3 idx w : Nat} {a : Addr} (w1 : W[i1]? = some (.methodLink own idx Lib.objectInit)) (w2 : W[i2]? = some (.instanceMethod Lib.objectInit)) (w3 : W[i3]? = some (.code Lib.objectInit ⟨#[0xb1]⟩ 1 none))
    (hd : decode bytes pc = .ok (.invokespecial idx, 3)) (hz : Ls.size = ml) (hf : 1 ≤ R.frames) (hw : (st.map fun v => v.category).sum ≤ w) (hl : w + 12 ≤ R.locals)
    {pc' : Nat} (hp : pc + 3 = pc') (k : ∀ T', On p l e R s m args below meth c D Z n0 T' A cells slots → Go p e below (T'.setTop (mkF m pc'  Ls st)) G) : Go p e below (T.setTop (mkF m pc Ls (.ref a :: st))) G := by
  subst hp
  obtain ⟨locs, X, N, RA⟩ := X
  obtain ⟨T', X', e', stp⟩ := initO X K.1 K.2.1 K.2.2.1 (wd K w1) (wd K w2) (wd K w3) rfl (g := mkF m pc Ls (.ref a :: st)) rfl (hz.trans K.2.2.2.2.1.symm) rfl (dc K hd) hf (W := w) (by simpa [JFrame.monitorRoom] using hw) hl
  exact go stp (k T' ⟨locs, X', N, by rw [e']; exact RA⟩)
theorem calls (K : Cx p l e R s m meth c Z a0 W own nm bytes ml rt) (X : On p l e R s m args below meth c D Z n0 T A cells slots) {i1 i2 i3 i4 idx w : Nat} {y : MethodName} {by' : ByteArray} {ml' : Nat} {rt' : Option FieldType} {rm : Room} {as : List Value} {r : Option Value} {S : List Value} {ps : List FieldType}
    (w1 : W[i1]? = some (.methodLink own idx y)) (w2 : W[i2]? = some (.static y)) (w3 : W[i3]? = some (.initialized y.cls)) (w4 : W[i4]? = some (.code y by' ml' rt')) (hy : y.cls ≠ "java/lang/invoke/MethodHandle" ∧ y.cls ≠ "java/lang/invoke/VarHandle")
    (M : Met l D Z n0 y by' ml' rt' rm as A r A') (hpd : parseMethodDescriptor y.desc = some ⟨ps, rt'⟩) (hlen : as.length = ps.length) (hd : decode bytes pc = .ok (.invokestatic idx, 3)) (hz : Ls.size = ml) (hS : S = as.reverse ++ st)
    (hf : rm.frames + 1 ≤ R.frames) (hw : (st.map fun v => v.category).sum ≤ w) (hl : w + (ml' + 11) + rm.locals ≤ R.locals) (hc : cells + rm.cells ≤ R.cells) (hs : slots + rm.slots ≤ R.slots)
    {pc' kc ks : Nat} {S' : List Value} (ec : cells + rm.cells = kc) (es : slots + rm.slots = ks) (hS' : r.toList ++ st = S') (hp : pc + 3 = pc') (k : ∀ T', On p l e R s m args below meth c D Z n0 T' A' kc ks → Go p e below (T'.setTop (mkF m pc' Ls S')) G) : Go p e below (T.setTop (mkF m pc Ls S)) G := by
  subst hp ec es hS'
  obtain ⟨locs, X, N, RA⟩ := X
  obtain ⟨v, vm, ⟨T', L', k', n'⟩, -, X', ⟨Lc, hQ, q1, q2, q3⟩, stp⟩ := Jvm.LawKit.callS X K.1 K.2.2.1 (mvT K.2.1 (wd K w1)) (mvT K.2.1 (wd K w2)) (mvT K.2.1 (wd K w3)) (mvT K.2.1 (wd K w4)) hy
    (backOf (W := w) (M [] T.heap RA) K.2.1 (wd K w4) (wd K w3) hf hl) (g := mkF m pc Ls S) rfl (hz.trans K.2.2.2.2.1.symm) (argsL := as) (rest := st) (lenOf hpd hlen) hS (by simpa [JFrame.monitorRoom] using hw) (dc K hd) (fun _ _ => ⟨rfl, rfl, hc, hs⟩)
  dsimp only [Pt.U, Pt.locs, Pt.cells, Pt.slots] at X' q1 q2 q3 hQ stp
  subst q1 q2 q3
  obtain ⟨rfl, N', RA'⟩ := hQ
  exact go stp (k T' ⟨_, X', Fr.app N N', RA'⟩)
theorem calli (K : Cx p l e R s m meth c Z a0 W own nm bytes ml rt) (X : On p l e R s m args below meth c D Z n0 T A cells slots) {i1 i2 i3 i4 idx w : Nat} {y : MethodName} {by' : ByteArray} {ml' : Nat} {rm : Room} {a : Addr} {as : List Value} {S : List Value} {ps : List FieldType}
    (w1 : W[i1]? = some (.methodLink own idx y)) (w2 : W[i2]? = some (.instanceMethod y)) (w3 : W[i3]? = some (.initialized y.cls)) (w4 : W[i4]? = some (.code y by' ml' none)) (hy1 : y.name = "<init>") (hy : y.cls ≠ "java/lang/invoke/MethodHandle" ∧ y.cls ≠ "java/lang/invoke/VarHandle")
    (M : Met l D Z n0 y by' ml' none rm (.ref a :: as) A none A') (hpd : parseMethodDescriptor y.desc = some ⟨ps, none⟩) (hlen : as.length = ps.length) (hd : decode bytes pc = .ok (.invokespecial idx, 3)) (hz : Ls.size = ml) (hS : S = as.reverse ++ .ref a :: st)
    (hf : rm.frames + 1 ≤ R.frames) (hw : (st.map fun v => v.category).sum ≤ w) (hl : w + (ml' + 11) + rm.locals ≤ R.locals) (hc : cells + rm.cells ≤ R.cells) (hs : slots + rm.slots ≤ R.slots)
    {pc' kc ks : Nat} (ec : cells + rm.cells = kc) (es : slots + rm.slots = ks) (hp : pc + 3 = pc') (k : ∀ T', On p l e R s m args below meth c D Z n0 T' A' kc ks → Go p e below (T'.setTop (mkF m pc'  Ls st)) G) : Go p e below (T.setTop (mkF m pc Ls S)) G := by
  subst hp ec es
  obtain ⟨locs, X, N, RA⟩ := X
  obtain ⟨v, vm, ⟨T', L', k', n'⟩, -, X', ⟨Lc, hQ, q1, q2, q3⟩, stp⟩ := X.specialBack K.1 hy1 K.2.2.1 (mvT K.2.1 (wd K w1)) (mvT K.2.1 (wd K w2)) (mvT K.2.1 (wd K w4)) hy
    (backOf (W := w) (M [] T.heap RA) K.2.1 (wd K w4) (wd K w3) hf hl) (g := mkF m pc Ls S) rfl (hz.trans K.2.2.2.2.1.symm) (Steps.refl _) (a := a) (argsL := as) (rest := st) (lenOf hpd hlen) hS (by simpa [JFrame.monitorRoom] using hw) (dc K hd) (fun _ _ => ⟨rfl, rfl, hc, hs⟩)
  dsimp only [Pt.U, Pt.locs, Pt.cells, Pt.slots] at X' q1 q2 q3 hQ stp
  subst q1 q2 q3
  obtain ⟨rfl, N', RA'⟩ := hQ
  exact go (fun _ q => stp.trans q) (k T' ⟨_, X', Fr.app N N', RA'⟩)
theorem callv (K : Cx p l e R s m meth c Z a0 W own nm bytes ml rt) (X : On p l e R s m args below meth c D Z n0 T A cells slots) {i1 i2 i3 i4 i5 i6 idx w t a : Nat} {u : Unit} {y : MethodName} {by' : ByteArray} {ml' : Nat} {rt' : Option FieldType} {rm : Room} {as : List Value} {r : Option Value} {S : List Value} {ps : List FieldType}
    (w1 : W[i1]? = some (.methodLink own idx y)) (w2 : W[i2]? = some (.declares y)) (w5 : W[i5]? = some (.selects (D t).1 y y)) (w6 : W[i6]? = some (.instanceMethod y)) (w3 : W[i3]? = some (.initialized y.cls)) (w4 : W[i4]? = some (.code y by' ml' rt')) (hy : y.cls ≠ "java/lang/invoke/MethodHandle" ∧ y.cls ≠ "java/lang/invoke/VarHandle")
    (ht : 10 ≤ t) (hA : h_isA A t a = some u) (M : Met l D Z n0 y by' ml' rt' rm (.ref (n0 + a) :: as) A r A') (hpd : parseMethodDescriptor y.desc = some ⟨ps, rt'⟩) (hlen : as.length = ps.length) (hd : decode bytes pc = .ok (.invokevirtual idx, 3)) (hz : Ls.size = ml) (hS : S = as.reverse ++ .ref (n0 + a) :: st)
    (hf : rm.frames + 1 ≤ R.frames) (hw : (st.map fun v => v.category).sum ≤ w) (hl : w + (ml' + 11) + rm.locals ≤ R.locals) (hc : cells + rm.cells ≤ R.cells) (hs : slots + rm.slots ≤ R.slots)
    {pc' kc ks : Nat} {S' : List Value} (ec : cells + rm.cells = kc) (es : slots + rm.slots = ks) (hS' : r.toList ++ st = S') (hp : pc + 3 = pc') (k : ∀ T', On p l e R s m args below meth c D Z n0 T' A' kc ks → Go p e below (T'.setTop (mkF m pc' Ls S')) G) : Go p e below (T.setTop (mkF m pc Ls S)) G := by
  subst hp ec es hS'
  obtain ⟨locs, X, N, RA⟩ := X
  obtain ⟨vs, hA⟩ := isA_s hA
  obtain ⟨cq, kq, q1, q2, q3⟩ := isOf K.2.1 rfl (RA.exa ht hA)
  obtain ⟨v, vm, ⟨T', L', k', n'⟩, -, X', ⟨Lc, hQ, q1, q2, q3⟩, stp⟩ := X.virtualBack K.1 (y := y) (z := y) K.2.2.1 (mvT K.2.1 (wd K w1)) (mvT K.2.1 (wd K w2)) (notFace_of_selects (args := #[]) (mvT K.2.1 (wd K w5))) (mvT K.2.1 (wd K w5)) (mvT K.2.1 (wd K w6)) hy
    (backOf (W := w) (M [] T.heap RA) K.2.1 (wd K w4) (wd K w3) hf hl) q1 q3 (g := mkF m pc Ls S) rfl (hz.trans K.2.2.2.2.1.symm) (Steps.refl _) (argsL := as) (rest := st) (lenOf hpd hlen) hS (by simpa [JFrame.monitorRoom] using hw) (dc K hd) (fun _ _ => ⟨rfl, rfl, hc, hs⟩)
  dsimp only [Pt.U, Pt.locs, Pt.cells, Pt.slots] at X' q1 q2 q3 hQ stp
  subst q1 q2 q3
  obtain ⟨rfl, N', RA'⟩ := hQ
  exact go (fun _ q => stp.trans q) (k T' ⟨_, X', Fr.app N N', RA'⟩)
theorem callp (K : Cx p l e R s m meth c Z a0 W own nm bytes ml rt) (X : On p l e R s m args below meth c D Z n0 T A cells slots) {i1 i2 i3 i4 i5 i6 idx w t a kk : Nat} {u : Unit} {y : MethodName} {by' : ByteArray} {ml' : Nat} {rt' : Option FieldType} {rm : Room} {as : List Value} {r : Option Value} {S : List Value} {ps : List FieldType}
    (w1 : W[i1]? = some (.methodLink own idx y)) (w2 : W[i2]? = some (.privateMethod y)) (w5 : W[i5]? = some (.instantiable y.cls kk)) (w6 : W[i6]? = some (.instanceMethod y)) (w3 : W[i3]? = some (.initialized y.cls)) (w4 : W[i4]? = some (.code y by' ml' rt')) (hy : y.cls ≠ "java/lang/invoke/MethodHandle" ∧ y.cls ≠ "java/lang/invoke/VarHandle")
    (ht : 10 ≤ t) (hA : h_isA A t a = some u) (M : Met l D Z n0 y by' ml' rt' rm (.ref (n0 + a) :: as) A r A') (hpd : parseMethodDescriptor y.desc = some ⟨ps, rt'⟩) (hlen : as.length = ps.length) (hd : decode bytes pc = .ok (.invokevirtual idx, 3)) (hz : Ls.size = ml) (hS : S = as.reverse ++ .ref (n0 + a) :: st)
    (hf : rm.frames + 1 ≤ R.frames) (hw : (st.map fun v => v.category).sum ≤ w) (hl : w + (ml' + 11) + rm.locals ≤ R.locals) (hc : cells + rm.cells ≤ R.cells) (hs : slots + rm.slots ≤ R.slots)
    {pc' kc ks : Nat} {S' : List Value} (ec : cells + rm.cells = kc) (es : slots + rm.slots = ks) (hS' : r.toList ++ st = S') (hp : pc + 3 = pc') (k : ∀ T', On p l e R s m args below meth c D Z n0 T' A' kc ks → Go p e below (T'.setTop (mkF m pc' Ls S')) G) : Go p e below (T.setTop (mkF m pc Ls S)) G := by
  subst hp ec es hS'
  obtain ⟨locs, X, N, RA⟩ := X
  obtain ⟨vs, hA⟩ := isA_s hA
  obtain ⟨cq, q1, q2⟩ := (RA.exa ht hA).cell
  have wi : (Jvm.Cond.instantiable y.cls kk).before #[] s = true := mvT K.2.1 (wd K w5)
  obtain ⟨c0, k0, i1, i2, i3, i4, -⟩ := Cond.instantiable_spec wi
  have hni : k0.isInterface = false := (Bool.or_eq_false_iff.mp i4).1
  have hpr : s.PrivateAt y := Cond.privateMethod_at (mvP K.2.1 (wd K w2) (args := #[]))
  have hin : (Jvm.Cond.instanceMethod y).before args s = true := mvT K.2.1 (wd K w6)
  obtain ⟨v, vm, ⟨T', L', k', n'⟩, -, X', ⟨Lc, hQ, q1, q2, q3⟩, stp⟩ := X.privateBack K.1 (y := y) K.2.2.1 (mvT K.2.1 (wd K w1)) hin (selects_self_of_private i1 i2 hni hpr hin hy) hpr (mvT K.2.1 (wd K w4)) hy
    (backOf (W := w) (M [] T.heap RA) K.2.1 (wd K w4) (wd K w3) hf hl) (g := mkF m pc Ls S) rfl (hz.trans K.2.2.2.2.1.symm) (Steps.refl _) (a := n0 + a) q1 q2 (argsL := as) (rest := st) (lenOf hpd hlen) hS (by simpa [JFrame.monitorRoom] using hw) (dc K hd) (fun _ _ => ⟨rfl, rfl, hc, hs⟩)
  dsimp only [Pt.U, Pt.locs, Pt.cells, Pt.slots] at X' q1 q2 q3 hQ stp
  subst q1 q2 q3
  obtain ⟨rfl, N', RA'⟩ := hQ
  exact go (fun _ q => stp.trans q) (k T' ⟨_, X', Fr.app N N', RA'⟩)
/-! a body by its blocks -/
theorem met {y : MethodName} {as : List Value} {r : Option Value} {L0 : Array Slot} (hp : plainFor y = true) (hw : ∀ d ∈ W, d.before a0 Z = true) (hn : y.cls = own) (hnn : y.name = nm) (hef : ∀ m, entryFrame m as.toArray ml = mkF m 0 L0 [])
    (hb : ∀ (p : Program) (e : Env) (s : State) (m : MethodId) (below : List Frame) (meth : Method) (c : Code) (T : State), Cx p l e R s m meth c Z a0 W own nm bytes ml rt → On p l e R s m as.toArray below meth c D Z n0 T A 0 0 → Go p e below (T.setTop (mkF m 0 L0 [])) (Fini D Z n0 s R r A')) :
    Met l D Z n0 y bytes ml rt R as A r A' := by
  intro ws h0 RA
  refine MetFree.of_bodySF hp hisR ?_
  intro p e s m args below meth c s₁ Bd hml0 hP hK
  obtain ⟨rfl, hZ, hh⟩ := hP
  have hown : s.vm.findClass own = some m.cls := hn ▸ findClass_of_methodNamed Bd.named
  have hnm := (name_of_methodNamed Bd.named Bd.method).1
  have X0 : Stand p l e R s m as.toArray below meth c s₁ [] 0 0 := Stand.of_body Bd
  have e0 : s₁.heap = h0 := by rw [← hh, Bd.state]; rfl
  have := hb p e s m below meth c s₁ ⟨Bd.exec, hZ, hown, Bd.bytes, hml0, Bd.returns, Bd.notSynchronized, hnm.trans hnn, hw⟩ ⟨[], X0, Fr.nil n0, by rw [e0]; exact RA⟩
  obtain ⟨t, o, h1, h2, h3, h4⟩ := this
  exact ⟨t, o, castTop (hef m) h1, h2, h3, h4⟩
end Walk
end Jvm.OwnKit
namespace Jvm.OwnKit
open Sem ClassFile Op Lib Jvm.Stand Jvm.Free Jvm.LawKit Jvm.RoadKit
section Instr
variable {p : Program} {l : Launch} {e : Env} {R : Room} {s : State} {m : MethodId} {args : Array Value} {below : List Frame} {meth : Method} {c : Code} {Z : State} {a0 : Array Value} {W : List Jvm.Cond} {own nm : String} {bytes : ByteArray} {ml : Nat} {rt : Option FieldType} {D : Dic} {n0 : Nat} {T : State} {A A' : AH} {cells slots : Nat} {G : Outcome → State → Prop} {pc : Nat} {Ls : Array Slot} {st : List Value}
theorem i_iadd (K : Cx p l e R s m meth c Z a0 W own nm bytes ml rt) (X : On p l e R s m args below meth c D Z n0 T A cells slots) {x y : Int32} {pc' : Nat} (hd : decode bytes pc = .ok (.iadd, 1)) (hp : pc + 1 = pc')
    (k : Go p e below (T.setTop (mkF m pc' Ls (.int (x + y) :: st))) G) : Go p e below (T.setTop (mkF m pc Ls (.int y :: .int x :: st))) G := by
  subst hp; exact go (fun _ => XS.iadd X.here K.1 (g := mkF m pc Ls (.int y :: .int x :: st)) rfl (dc K hd) rfl) k
theorem i_isub (K : Cx p l e R s m meth c Z a0 W own nm bytes ml rt) (X : On p l e R s m args below meth c D Z n0 T A cells slots) {x y : Int32} {pc' : Nat} (hd : decode bytes pc = .ok (.isub, 1)) (hp : pc + 1 = pc')
    (k : Go p e below (T.setTop (mkF m pc' Ls (.int (x - y) :: st))) G) : Go p e below (T.setTop (mkF m pc Ls (.int y :: .int x :: st))) G := by
  subst hp; exact go (fun _ => XS.isub X.here K.1 (g := mkF m pc Ls (.int y :: .int x :: st)) rfl (dc K hd) rfl) k
theorem i_imul (K : Cx p l e R s m meth c Z a0 W own nm bytes ml rt) (X : On p l e R s m args below meth c D Z n0 T A cells slots) {x y : Int32} {pc' : Nat} (hd : decode bytes pc = .ok (.imul, 1)) (hp : pc + 1 = pc')
    (k : Go p e below (T.setTop (mkF m pc' Ls (.int (x * y) :: st))) G) : Go p e below (T.setTop (mkF m pc Ls (.int y :: .int x :: st))) G := by
  subst hp; exact go (fun _ => XS.imul X.here K.1 (g := mkF m pc Ls (.int y :: .int x :: st)) rfl (dc K hd) rfl) k
theorem i_iand (K : Cx p l e R s m meth c Z a0 W own nm bytes ml rt) (X : On p l e R s m args below meth c D Z n0 T A cells slots) {x y : Int32} {pc' : Nat} (hd : decode bytes pc = .ok (.iand, 1)) (hp : pc + 1 = pc')
    (k : Go p e below (T.setTop (mkF m pc' Ls (.int (x &&& y) :: st))) G) : Go p e below (T.setTop (mkF m pc Ls (.int y :: .int x :: st))) G := by
  subst hp; exact go (fun _ => XS.iand X.here K.1 (g := mkF m pc Ls (.int y :: .int x :: st)) rfl (dc K hd) rfl) k
theorem i_ior (K : Cx p l e R s m meth c Z a0 W own nm bytes ml rt) (X : On p l e R s m args below meth c D Z n0 T A cells slots) {x y : Int32} {pc' : Nat} (hd : decode bytes pc = .ok (.ior, 1)) (hp : pc + 1 = pc')
    (k : Go p e below (T.setTop (mkF m pc' Ls (.int (x ||| y) :: st))) G) : Go p e below (T.setTop (mkF m pc Ls (.int y :: .int x :: st))) G := by
  subst hp; exact go (fun _ => XS.ior X.here K.1 (g := mkF m pc Ls (.int y :: .int x :: st)) rfl (dc K hd) rfl) k
theorem i_ixor (K : Cx p l e R s m meth c Z a0 W own nm bytes ml rt) (X : On p l e R s m args below meth c D Z n0 T A cells slots) {x y : Int32} {pc' : Nat} (hd : decode bytes pc = .ok (.ixor, 1)) (hp : pc + 1 = pc')
    (k : Go p e below (T.setTop (mkF m pc' Ls (.int (x ^^^ y) :: st))) G) : Go p e below (T.setTop (mkF m pc Ls (.int y :: .int x :: st))) G := by
  subst hp; exact go (fun _ => XS.ixor X.here K.1 (g := mkF m pc Ls (.int y :: .int x :: st)) rfl (dc K hd) rfl) k
theorem i_ishl (K : Cx p l e R s m meth c Z a0 W own nm bytes ml rt) (X : On p l e R s m args below meth c D Z n0 T A cells slots) {x y : Int32} {pc' : Nat} (hd : decode bytes pc = .ok (.ishl, 1)) (hp : pc + 1 = pc')
    (k : Go p e below (T.setTop (mkF m pc' Ls (.int (x <<< (y &&& 31)) :: st))) G) : Go p e below (T.setTop (mkF m pc Ls (.int y :: .int x :: st))) G := by
  subst hp; exact go (fun _ => XS.ishl X.here K.1 (g := mkF m pc Ls (.int y :: .int x :: st)) rfl (dc K hd) rfl) k
theorem i_ishr (K : Cx p l e R s m meth c Z a0 W own nm bytes ml rt) (X : On p l e R s m args below meth c D Z n0 T A cells slots) {x y : Int32} {pc' : Nat} (hd : decode bytes pc = .ok (.ishr, 1)) (hp : pc + 1 = pc')
    (k : Go p e below (T.setTop (mkF m pc' Ls (.int (x >>> (y &&& 31)) :: st))) G) : Go p e below (T.setTop (mkF m pc Ls (.int y :: .int x :: st))) G := by
  subst hp; exact go (fun _ => XS.ishr X.here K.1 (g := mkF m pc Ls (.int y :: .int x :: st)) rfl (dc K hd) rfl) k
theorem i_iushr (K : Cx p l e R s m meth c Z a0 W own nm bytes ml rt) (X : On p l e R s m args below meth c D Z n0 T A cells slots) {x y : Int32} {pc' : Nat} (hd : decode bytes pc = .ok (.iushr, 1)) (hp : pc + 1 = pc')
    (k : Go p e below (T.setTop (mkF m pc' Ls (.int ((x.toUInt32 >>> (y &&& 31).toUInt32).toInt32) :: st))) G) : Go p e below (T.setTop (mkF m pc Ls (.int y :: .int x :: st))) G := by
  subst hp; exact go (fun _ => XS.iushr X.here K.1 (g := mkF m pc Ls (.int y :: .int x :: st)) rfl (dc K hd) rfl) k
theorem i_idiv (K : Cx p l e R s m meth c Z a0 W own nm bytes ml rt) (X : On p l e R s m args below meth c D Z n0 T A cells slots) {x y : Int32} {pc' : Nat} (hd : decode bytes pc = .ok (.idiv, 1)) (hp : pc + 1 = pc') (hy : y ≠ 0)
    (k : Go p e below (T.setTop (mkF m pc' Ls (.int (x / y) :: st))) G) : Go p e below (T.setTop (mkF m pc Ls (.int y :: .int x :: st))) G := by
  subst hp; exact go (fun _ => XS.idiv X.here K.1 (g := mkF m pc Ls (.int y :: .int x :: st)) rfl (dc K hd) rfl hy) k
theorem i_irem (K : Cx p l e R s m meth c Z a0 W own nm bytes ml rt) (X : On p l e R s m args below meth c D Z n0 T A cells slots) {x y : Int32} {pc' : Nat} (hd : decode bytes pc = .ok (.irem, 1)) (hp : pc + 1 = pc') (hy : y ≠ 0)
    (k : Go p e below (T.setTop (mkF m pc' Ls (.int (x % y) :: st))) G) : Go p e below (T.setTop (mkF m pc Ls (.int y :: .int x :: st))) G := by
  subst hp; rw [← irem_eq_mod] at k; exact go (fun _ => XS.irem X.here K.1 (g := mkF m pc Ls (.int y :: .int x :: st)) rfl (dc K hd) rfl hy) k
theorem i_ladd (K : Cx p l e R s m meth c Z a0 W own nm bytes ml rt) (X : On p l e R s m args below meth c D Z n0 T A cells slots) {x y : Int64} {pc' : Nat} (hd : decode bytes pc = .ok (.ladd, 1)) (hp : pc + 1 = pc')
    (k : Go p e below (T.setTop (mkF m pc' Ls (.long (x + y) :: st))) G) : Go p e below (T.setTop (mkF m pc Ls (.long y :: .long x :: st))) G := by
  subst hp; exact go (fun _ => XS.ladd X.here K.1 (g := mkF m pc Ls (.long y :: .long x :: st)) rfl (dc K hd) rfl) k
theorem i_lsub (K : Cx p l e R s m meth c Z a0 W own nm bytes ml rt) (X : On p l e R s m args below meth c D Z n0 T A cells slots) {x y : Int64} {pc' : Nat} (hd : decode bytes pc = .ok (.lsub, 1)) (hp : pc + 1 = pc')
    (k : Go p e below (T.setTop (mkF m pc' Ls (.long (x - y) :: st))) G) : Go p e below (T.setTop (mkF m pc Ls (.long y :: .long x :: st))) G := by
  subst hp; exact go (fun _ => XS.lsub X.here K.1 (g := mkF m pc Ls (.long y :: .long x :: st)) rfl (dc K hd) rfl) k
theorem i_lmul (K : Cx p l e R s m meth c Z a0 W own nm bytes ml rt) (X : On p l e R s m args below meth c D Z n0 T A cells slots) {x y : Int64} {pc' : Nat} (hd : decode bytes pc = .ok (.lmul, 1)) (hp : pc + 1 = pc')
    (k : Go p e below (T.setTop (mkF m pc' Ls (.long (x * y) :: st))) G) : Go p e below (T.setTop (mkF m pc Ls (.long y :: .long x :: st))) G := by
  subst hp; exact go (fun _ => XS.lmul X.here K.1 (g := mkF m pc Ls (.long y :: .long x :: st)) rfl (dc K hd) rfl) k
theorem i_land (K : Cx p l e R s m meth c Z a0 W own nm bytes ml rt) (X : On p l e R s m args below meth c D Z n0 T A cells slots) {x y : Int64} {pc' : Nat} (hd : decode bytes pc = .ok (.land, 1)) (hp : pc + 1 = pc')
    (k : Go p e below (T.setTop (mkF m pc' Ls (.long (x &&& y) :: st))) G) : Go p e below (T.setTop (mkF m pc Ls (.long y :: .long x :: st))) G := by
  subst hp; exact go (fun _ => XS.land X.here K.1 (g := mkF m pc Ls (.long y :: .long x :: st)) rfl (dc K hd) rfl) k
theorem i_lor (K : Cx p l e R s m meth c Z a0 W own nm bytes ml rt) (X : On p l e R s m args below meth c D Z n0 T A cells slots) {x y : Int64} {pc' : Nat} (hd : decode bytes pc = .ok (.lor, 1)) (hp : pc + 1 = pc')
    (k : Go p e below (T.setTop (mkF m pc' Ls (.long (x ||| y) :: st))) G) : Go p e below (T.setTop (mkF m pc Ls (.long y :: .long x :: st))) G := by
  subst hp; exact go (fun _ => XS.lor X.here K.1 (g := mkF m pc Ls (.long y :: .long x :: st)) rfl (dc K hd) rfl) k
theorem i_lxor (K : Cx p l e R s m meth c Z a0 W own nm bytes ml rt) (X : On p l e R s m args below meth c D Z n0 T A cells slots) {x y : Int64} {pc' : Nat} (hd : decode bytes pc = .ok (.lxor, 1)) (hp : pc + 1 = pc')
    (k : Go p e below (T.setTop (mkF m pc' Ls (.long (x ^^^ y) :: st))) G) : Go p e below (T.setTop (mkF m pc Ls (.long y :: .long x :: st))) G := by
  subst hp; exact go (fun _ => XS.lxor X.here K.1 (g := mkF m pc Ls (.long y :: .long x :: st)) rfl (dc K hd) rfl) k
theorem i_lshl (K : Cx p l e R s m meth c Z a0 W own nm bytes ml rt) (X : On p l e R s m args below meth c D Z n0 T A cells slots) {x : Int64} {y : Int32} {pc' : Nat} (hd : decode bytes pc = .ok (.lshl, 1)) (hp : pc + 1 = pc')
    (k : Go p e below (T.setTop (mkF m pc' Ls (.long (x <<< (y &&& 0x3f).toInt64) :: st))) G) : Go p e below (T.setTop (mkF m pc Ls (.int y :: .long x :: st))) G := by
  subst hp; exact go (fun _ => XS.lshl X.here K.1 (g := mkF m pc Ls (.int y :: .long x :: st)) rfl (dc K hd) rfl) k
theorem i_lshr (K : Cx p l e R s m meth c Z a0 W own nm bytes ml rt) (X : On p l e R s m args below meth c D Z n0 T A cells slots) {x : Int64} {y : Int32} {pc' : Nat} (hd : decode bytes pc = .ok (.lshr, 1)) (hp : pc + 1 = pc')
    (k : Go p e below (T.setTop (mkF m pc' Ls (.long (x >>> (y &&& 0x3f).toInt64) :: st))) G) : Go p e below (T.setTop (mkF m pc Ls (.int y :: .long x :: st))) G := by
  subst hp; exact go (fun _ => XS.lshr X.here K.1 (g := mkF m pc Ls (.int y :: .long x :: st)) rfl (dc K hd) rfl) k
theorem i_lushr (K : Cx p l e R s m meth c Z a0 W own nm bytes ml rt) (X : On p l e R s m args below meth c D Z n0 T A cells slots) {x : Int64} {y : Int32} {pc' : Nat} (hd : decode bytes pc = .ok (.lushr, 1)) (hp : pc + 1 = pc')
    (k : Go p e below (T.setTop (mkF m pc' Ls (.long ((x.toUInt64 >>> (y &&& 0x3f).toInt64.toUInt64).toInt64) :: st))) G) : Go p e below (T.setTop (mkF m pc Ls (.int y :: .long x :: st))) G := by
  subst hp; exact go (fun _ => XS.lushr X.here K.1 (g := mkF m pc Ls (.int y :: .long x :: st)) rfl (dc K hd) rfl) k
theorem i_ldiv (K : Cx p l e R s m meth c Z a0 W own nm bytes ml rt) (X : On p l e R s m args below meth c D Z n0 T A cells slots) {x y : Int64} {pc' : Nat} (hd : decode bytes pc = .ok (.ldiv, 1)) (hp : pc + 1 = pc') (hy : y ≠ 0)
    (k : Go p e below (T.setTop (mkF m pc' Ls (.long (x / y) :: st))) G) : Go p e below (T.setTop (mkF m pc Ls (.long y :: .long x :: st))) G := by
  subst hp; exact go (fun _ => XS.ldiv X.here K.1 (g := mkF m pc Ls (.long y :: .long x :: st)) rfl (dc K hd) rfl hy) k
theorem i_lrem (K : Cx p l e R s m meth c Z a0 W own nm bytes ml rt) (X : On p l e R s m args below meth c D Z n0 T A cells slots) {x y : Int64} {pc' : Nat} (hd : decode bytes pc = .ok (.lrem, 1)) (hp : pc + 1 = pc') (hy : y ≠ 0)
    (k : Go p e below (T.setTop (mkF m pc' Ls (.long (x - (x / y) * y) :: st))) G) : Go p e below (T.setTop (mkF m pc Ls (.long y :: .long x :: st))) G := by
  subst hp; exact go (fun _ => XS.lrem X.here K.1 (g := mkF m pc Ls (.long y :: .long x :: st)) rfl (dc K hd) rfl hy) k
theorem i_ineg (K : Cx p l e R s m meth c Z a0 W own nm bytes ml rt) (X : On p l e R s m args below meth c D Z n0 T A cells slots) {x : Int32} {pc' : Nat} (hd : decode bytes pc = .ok (.ineg, 1)) (hp : pc + 1 = pc')
    (k : Go p e below (T.setTop (mkF m pc' Ls (.int (-x) :: st))) G) : Go p e below (T.setTop (mkF m pc Ls (.int x :: st))) G := by
  subst hp; exact go (fun _ => XS.ineg X.here K.1 (g := mkF m pc Ls (.int x :: st)) rfl (dc K hd) rfl) k
theorem i_lneg (K : Cx p l e R s m meth c Z a0 W own nm bytes ml rt) (X : On p l e R s m args below meth c D Z n0 T A cells slots) {x : Int64} {pc' : Nat} (hd : decode bytes pc = .ok (.lneg, 1)) (hp : pc + 1 = pc')
    (k : Go p e below (T.setTop (mkF m pc' Ls (.long (-x) :: st))) G) : Go p e below (T.setTop (mkF m pc Ls (.long x :: st))) G := by
  subst hp; exact go (fun _ => XS.lneg X.here K.1 (g := mkF m pc Ls (.long x :: st)) rfl (dc K hd) rfl) k
theorem i_i2b (K : Cx p l e R s m meth c Z a0 W own nm bytes ml rt) (X : On p l e R s m args below meth c D Z n0 T A cells slots) {x : Int32} {pc' : Nat} (hd : decode bytes pc = .ok (.i2b, 1)) (hp : pc + 1 = pc')
    (k : Go p e below (T.setTop (mkF m pc' Ls (.int (x.toInt8.toInt32) :: st))) G) : Go p e below (T.setTop (mkF m pc Ls (.int x :: st))) G := by
  subst hp; exact go (fun _ => XS.i2b X.here K.1 (g := mkF m pc Ls (.int x :: st)) rfl (dc K hd) rfl) k
theorem i_i2c (K : Cx p l e R s m meth c Z a0 W own nm bytes ml rt) (X : On p l e R s m args below meth c D Z n0 T A cells slots) {x : Int32} {pc' : Nat} (hd : decode bytes pc = .ok (.i2c, 1)) (hp : pc + 1 = pc')
    (k : Go p e below (T.setTop (mkF m pc' Ls (.int (x.toUInt32.toUInt16.toUInt32.toInt32) :: st))) G) : Go p e below (T.setTop (mkF m pc Ls (.int x :: st))) G := by
  subst hp; exact go (fun _ => XS.i2c X.here K.1 (g := mkF m pc Ls (.int x :: st)) rfl (dc K hd) rfl) k
theorem i_i2s (K : Cx p l e R s m meth c Z a0 W own nm bytes ml rt) (X : On p l e R s m args below meth c D Z n0 T A cells slots) {x : Int32} {pc' : Nat} (hd : decode bytes pc = .ok (.i2s, 1)) (hp : pc + 1 = pc')
    (k : Go p e below (T.setTop (mkF m pc' Ls (.int (x.toInt16.toInt32) :: st))) G) : Go p e below (T.setTop (mkF m pc Ls (.int x :: st))) G := by
  subst hp; exact go (fun _ => XS.i2s X.here K.1 (g := mkF m pc Ls (.int x :: st)) rfl (dc K hd) rfl) k
theorem i_i2l (K : Cx p l e R s m meth c Z a0 W own nm bytes ml rt) (X : On p l e R s m args below meth c D Z n0 T A cells slots) {x : Int32} {pc' : Nat} (hd : decode bytes pc = .ok (.i2l, 1)) (hp : pc + 1 = pc')
    (k : Go p e below (T.setTop (mkF m pc' Ls (.long (x.toInt64) :: st))) G) : Go p e below (T.setTop (mkF m pc Ls (.int x :: st))) G := by
  subst hp; exact go (fun _ => XS.i2l X.here K.1 (g := mkF m pc Ls (.int x :: st)) rfl (dc K hd) rfl) k
theorem i_l2i (K : Cx p l e R s m meth c Z a0 W own nm bytes ml rt) (X : On p l e R s m args below meth c D Z n0 T A cells slots) {x : Int64} {pc' : Nat} (hd : decode bytes pc = .ok (.l2i, 1)) (hp : pc + 1 = pc')
    (k : Go p e below (T.setTop (mkF m pc' Ls (.int (x.toInt32) :: st))) G) : Go p e below (T.setTop (mkF m pc Ls (.long x :: st))) G := by
  subst hp; exact go (fun _ => XS.l2i X.here K.1 (g := mkF m pc Ls (.long x :: st)) rfl (dc K hd) rfl) k
theorem i_lcmp (K : Cx p l e R s m meth c Z a0 W own nm bytes ml rt) (X : On p l e R s m args below meth c D Z n0 T A cells slots) {x y : Int64} {pc' : Nat} (hd : decode bytes pc = .ok (.lcmp, 1)) (hp : pc + 1 = pc')
    (k : Go p e below (T.setTop (mkF m pc' Ls (.int (lcmpW x y) :: st))) G) : Go p e below (T.setTop (mkF m pc Ls (.long y :: .long x :: st))) G := by
  subst hp; exact go (fun _ => XS.lcmp X.here K.1 (g := mkF m pc Ls (.long y :: .long x :: st)) rfl (dc K hd) rfl) k
theorem i_pop (K : Cx p l e R s m meth c Z a0 W own nm bytes ml rt) (X : On p l e R s m args below meth c D Z n0 T A cells slots) {x : Value} {pc' : Nat} (hd : decode bytes pc = .ok (.pop, 1)) (hp : pc + 1 = pc') (h1 : x.category = 1)
    (k : Go p e below (T.setTop (mkF m pc' Ls (st))) G) : Go p e below (T.setTop (mkF m pc Ls (x :: st))) G := by
  subst hp; exact go (fun _ => XS.pop X.here K.1 (g := mkF m pc Ls (x :: st)) rfl (dc K hd) rfl h1) k
theorem i_dup (K : Cx p l e R s m meth c Z a0 W own nm bytes ml rt) (X : On p l e R s m args below meth c D Z n0 T A cells slots) {x : Value} {pc' : Nat} (hd : decode bytes pc = .ok (.dup, 1)) (hp : pc + 1 = pc') (h1 : x.category = 1)
    (k : Go p e below (T.setTop (mkF m pc' Ls (x :: x :: st))) G) : Go p e below (T.setTop (mkF m pc Ls (x :: st))) G := by
  subst hp; exact go (fun _ => XS.dup X.here K.1 (g := mkF m pc Ls (x :: st)) rfl (dc K hd) rfl h1) k
theorem i_dupX1 (K : Cx p l e R s m meth c Z a0 W own nm bytes ml rt) (X : On p l e R s m args below meth c D Z n0 T A cells slots) {x y : Value} {pc' : Nat} (hd : decode bytes pc = .ok (.dup_x1, 1)) (hp : pc + 1 = pc') (h1 : x.category = 1) (h2 : y.category = 1)
    (k : Go p e below (T.setTop (mkF m pc' Ls (x :: y :: x :: st))) G) : Go p e below (T.setTop (mkF m pc Ls (x :: y :: st))) G := by
  subst hp; exact go (fun _ => XS.dupX1 X.here K.1 (g := mkF m pc Ls (x :: y :: st)) rfl (dc K hd) rfl h1 h2) k
theorem i_swap (K : Cx p l e R s m meth c Z a0 W own nm bytes ml rt) (X : On p l e R s m args below meth c D Z n0 T A cells slots) {x y : Value} {pc' : Nat} (hd : decode bytes pc = .ok (.swap, 1)) (hp : pc + 1 = pc') (h1 : x.category = 1) (h2 : y.category = 1)
    (k : Go p e below (T.setTop (mkF m pc' Ls (y :: x :: st))) G) : Go p e below (T.setTop (mkF m pc Ls (x :: y :: st))) G := by
  subst hp; exact go (fun _ => XS.swap X.here K.1 (g := mkF m pc Ls (x :: y :: st)) rfl (dc K hd) rfl h1 h2) k
theorem i_iload (K : Cx p l e R s m meth c Z a0 W own nm bytes ml rt) (X : On p l e R s m args below meth c D Z n0 T A cells slots) {v : Int32} {i : Nat} {pc' : Nat} (hd : decode bytes pc = .ok (.iload i, 2)) (hp : pc + 2 = pc') (hl : Ls[i]? = some (.val (.int v)))
    (k : Go p e below (T.setTop (mkF m pc' Ls (.int v :: st))) G) : Go p e below (T.setTop (mkF m pc Ls (st))) G := by
  subst hp; exact go (fun _ => XS.iload X.here K.1 (g := mkF m pc Ls (st)) rfl (dc K hd) hl) k
theorem i_iloadN (K : Cx p l e R s m meth c Z a0 W own nm bytes ml rt) (X : On p l e R s m args below meth c D Z n0 T A cells slots) {v : Int32} {i : Fin 4} {pc' : Nat} (hd : decode bytes pc = .ok (.iload_n i, 1)) (hp : pc + 1 = pc') (hl : Ls[i.val]? = some (.val (.int v)))
    (k : Go p e below (T.setTop (mkF m pc' Ls (.int v :: st))) G) : Go p e below (T.setTop (mkF m pc Ls (st))) G := by
  subst hp; exact go (fun _ => XS.iloadN X.here K.1 (g := mkF m pc Ls (st)) rfl (dc K hd) hl) k
theorem i_lload (K : Cx p l e R s m meth c Z a0 W own nm bytes ml rt) (X : On p l e R s m args below meth c D Z n0 T A cells slots) {v : Int64} {i : Nat} {pc' : Nat} (hd : decode bytes pc = .ok (.lload i, 2)) (hp : pc + 2 = pc') (hl : Ls[i]? = some (.val (.long v)))
    (k : Go p e below (T.setTop (mkF m pc' Ls (.long v :: st))) G) : Go p e below (T.setTop (mkF m pc Ls (st))) G := by
  subst hp; exact go (fun _ => XS.lload X.here K.1 (g := mkF m pc Ls (st)) rfl (dc K hd) hl) k
theorem i_lloadN (K : Cx p l e R s m meth c Z a0 W own nm bytes ml rt) (X : On p l e R s m args below meth c D Z n0 T A cells slots) {v : Int64} {i : Fin 4} {pc' : Nat} (hd : decode bytes pc = .ok (.lload_n i, 1)) (hp : pc + 1 = pc') (hl : Ls[i.val]? = some (.val (.long v)))
    (k : Go p e below (T.setTop (mkF m pc' Ls (.long v :: st))) G) : Go p e below (T.setTop (mkF m pc Ls (st))) G := by
  subst hp; exact go (fun _ => XS.lloadN X.here K.1 (g := mkF m pc Ls (st)) rfl (dc K hd) hl) k
theorem i_aload (K : Cx p l e R s m meth c Z a0 W own nm bytes ml rt) (X : On p l e R s m args below meth c D Z n0 T A cells slots) {v : Value} {i : Nat} {pc' : Nat} (hd : decode bytes pc = .ok (.aload i, 2)) (hp : pc + 2 = pc') (hl : Ls[i]? = some (.val v)) (hv : v.isRef = true)
    (k : Go p e below (T.setTop (mkF m pc' Ls (v :: st))) G) : Go p e below (T.setTop (mkF m pc Ls (st))) G := by
  subst hp; exact go (fun _ => XS.aload X.here K.1 (g := mkF m pc Ls (st)) rfl (dc K hd) hl hv) k
theorem i_aloadN (K : Cx p l e R s m meth c Z a0 W own nm bytes ml rt) (X : On p l e R s m args below meth c D Z n0 T A cells slots) {v : Value} {i : Fin 4} {pc' : Nat} (hd : decode bytes pc = .ok (.aload_n i, 1)) (hp : pc + 1 = pc') (hl : Ls[i.val]? = some (.val v)) (hv : v.isRef = true)
    (k : Go p e below (T.setTop (mkF m pc' Ls (v :: st))) G) : Go p e below (T.setTop (mkF m pc Ls (st))) G := by
  subst hp; exact go (fun _ => XS.aloadN X.here K.1 (g := mkF m pc Ls (st)) rfl (dc K hd) hl hv) k
theorem i_istore (K : Cx p l e R s m meth c Z a0 W own nm bytes ml rt) (X : On p l e R s m args below meth c D Z n0 T A cells slots) {v : Int32} {i : Nat} {Ls' : Array Slot} {pc' : Nat} (hd : decode bytes pc = .ok (.istore i, 2)) (hp : pc + 2 = pc') (hl : storeLocals Ls i (.int v) = some Ls')
    (k : Go p e below (T.setTop (mkF m pc' Ls' (st))) G) : Go p e below (T.setTop (mkF m pc Ls (.int v :: st))) G := by
  subst hp; exact go (fun _ => XS.istore X.here K.1 (g := mkF m pc Ls (.int v :: st)) rfl (dc K hd) rfl hl) k
theorem i_istoreN (K : Cx p l e R s m meth c Z a0 W own nm bytes ml rt) (X : On p l e R s m args below meth c D Z n0 T A cells slots) {v : Int32} {i : Fin 4} {Ls' : Array Slot} {pc' : Nat} (hd : decode bytes pc = .ok (.istore_n i, 1)) (hp : pc + 1 = pc') (hl : storeLocals Ls i.val (.int v) = some Ls')
    (k : Go p e below (T.setTop (mkF m pc' Ls' (st))) G) : Go p e below (T.setTop (mkF m pc Ls (.int v :: st))) G := by
  subst hp; exact go (fun _ => XS.istoreN X.here K.1 (g := mkF m pc Ls (.int v :: st)) rfl (dc K hd) rfl hl) k
theorem i_lstore (K : Cx p l e R s m meth c Z a0 W own nm bytes ml rt) (X : On p l e R s m args below meth c D Z n0 T A cells slots) {v : Int64} {i : Nat} {Ls' : Array Slot} {pc' : Nat} (hd : decode bytes pc = .ok (.lstore i, 2)) (hp : pc + 2 = pc') (hl : storeLocals Ls i (.long v) = some Ls')
    (k : Go p e below (T.setTop (mkF m pc' Ls' (st))) G) : Go p e below (T.setTop (mkF m pc Ls (.long v :: st))) G := by
  subst hp; exact go (fun _ => XS.lstore X.here K.1 (g := mkF m pc Ls (.long v :: st)) rfl (dc K hd) rfl hl) k
theorem i_lstoreN (K : Cx p l e R s m meth c Z a0 W own nm bytes ml rt) (X : On p l e R s m args below meth c D Z n0 T A cells slots) {v : Int64} {i : Fin 4} {Ls' : Array Slot} {pc' : Nat} (hd : decode bytes pc = .ok (.lstore_n i, 1)) (hp : pc + 1 = pc') (hl : storeLocals Ls i.val (.long v) = some Ls')
    (k : Go p e below (T.setTop (mkF m pc' Ls' (st))) G) : Go p e below (T.setTop (mkF m pc Ls (.long v :: st))) G := by
  subst hp; exact go (fun _ => XS.lstoreN X.here K.1 (g := mkF m pc Ls (.long v :: st)) rfl (dc K hd) rfl hl) k
theorem i_astore (K : Cx p l e R s m meth c Z a0 W own nm bytes ml rt) (X : On p l e R s m args below meth c D Z n0 T A cells slots) {v : Value} {i : Nat} {Ls' : Array Slot} {pc' : Nat} (hd : decode bytes pc = .ok (.astore i, 2)) (hp : pc + 2 = pc') (hl : storeLocals Ls i v = some Ls') (hv : v.isRef = true)
    (k : Go p e below (T.setTop (mkF m pc' Ls' (st))) G) : Go p e below (T.setTop (mkF m pc Ls (v :: st))) G := by
  subst hp; exact go (fun _ => XS.astore X.here K.1 (g := mkF m pc Ls (v :: st)) rfl (dc K hd) rfl hv hl) k
theorem i_astoreN (K : Cx p l e R s m meth c Z a0 W own nm bytes ml rt) (X : On p l e R s m args below meth c D Z n0 T A cells slots) {v : Value} {i : Fin 4} {Ls' : Array Slot} {pc' : Nat} (hd : decode bytes pc = .ok (.astore_n i, 1)) (hp : pc + 1 = pc') (hl : storeLocals Ls i.val v = some Ls') (hv : v.isRef = true)
    (k : Go p e below (T.setTop (mkF m pc' Ls' (st))) G) : Go p e below (T.setTop (mkF m pc Ls (v :: st))) G := by
  subst hp; exact go (fun _ => XS.astoreN X.here K.1 (g := mkF m pc Ls (v :: st)) rfl (dc K hd) rfl hv hl) k
theorem i_iconst (K : Cx p l e R s m meth c Z a0 W own nm bytes ml rt) (X : On p l e R s m args below meth c D Z n0 T A cells slots) {i : Int} {v : Int32} {pc' : Nat} (hd : decode bytes pc = .ok (.iconst i, 1)) (hp : pc + 1 = pc') (hv : Int32.ofInt i = v)
    (k : Go p e below (T.setTop (mkF m pc' Ls (.int v :: st))) G) : Go p e below (T.setTop (mkF m pc Ls st)) G := by
  subst hp hv; exact go (fun _ => XS.iconst X.here K.1 (g := mkF m pc Ls st) rfl (dc K hd)) k
theorem i_bipush (K : Cx p l e R s m meth c Z a0 W own nm bytes ml rt) (X : On p l e R s m args below meth c D Z n0 T A cells slots) {i : Int} {v : Int32} {pc' : Nat} (hd : decode bytes pc = .ok (.bipush i, 2)) (hp : pc + 2 = pc') (hv : (Int8.ofInt i).toInt32 = v)
    (k : Go p e below (T.setTop (mkF m pc' Ls (.int v :: st))) G) : Go p e below (T.setTop (mkF m pc Ls st)) G := by
  subst hp hv; exact go (fun _ => XS.bipush X.here K.1 (g := mkF m pc Ls st) rfl (dc K hd)) k
theorem i_sipush (K : Cx p l e R s m meth c Z a0 W own nm bytes ml rt) (X : On p l e R s m args below meth c D Z n0 T A cells slots) {i : Int} {v : Int32} {pc' : Nat} (hd : decode bytes pc = .ok (.sipush i, 3)) (hp : pc + 3 = pc') (hv : (Int16.ofInt i).toInt32 = v)
    (k : Go p e below (T.setTop (mkF m pc' Ls (.int v :: st))) G) : Go p e below (T.setTop (mkF m pc Ls st)) G := by
  subst hp hv; exact go (fun _ => XS.sipush X.here K.1 (g := mkF m pc Ls st) rfl (dc K hd)) k
theorem i_lconst (K : Cx p l e R s m meth c Z a0 W own nm bytes ml rt) (X : On p l e R s m args below meth c D Z n0 T A cells slots) {i : Fin 2} {v : Int64} {pc' : Nat} (hd : decode bytes pc = .ok (.lconst i, 1)) (hp : pc + 1 = pc') (hv : Int64.ofNat i = v)
    (k : Go p e below (T.setTop (mkF m pc' Ls (.long v :: st))) G) : Go p e below (T.setTop (mkF m pc Ls st)) G := by
  subst hp hv; exact go (fun _ => XS.lconst X.here K.1 (g := mkF m pc Ls st) rfl (dc K hd)) k
theorem i_aconstNull (K : Cx p l e R s m meth c Z a0 W own nm bytes ml rt) (X : On p l e R s m args below meth c D Z n0 T A cells slots)  {pc' : Nat} (hd : decode bytes pc = .ok (.aconst_null, 1)) (hp : pc + 1 = pc')
    (k : Go p e below (T.setTop (mkF m pc' Ls (.null :: st))) G) : Go p e below (T.setTop (mkF m pc Ls (st))) G := by
  subst hp; exact go (fun _ => XS.aconstNull X.here K.1 (g := mkF m pc Ls (st)) rfl (dc K hd)) k
theorem i_iinc (K : Cx p l e R s m meth c Z a0 W own nm bytes ml rt) (X : On p l e R s m args below meth c D Z n0 T A cells slots) {x y : Int32} {i : Nat} {cst : Int} {Ls' : Array Slot} {pc' : Nat} (hd : decode bytes pc = .ok (.iinc i cst, 3)) (hp : pc + 3 = pc') (hl : Ls[i]? = some (.val (.int x))) (hy : Int32.ofInt cst = y) (hl' : storeLocals Ls i (.int (x + y)) = some Ls')
    (k : Go p e below (T.setTop (mkF m pc' Ls' st)) G) : Go p e below (T.setTop (mkF m pc Ls st)) G := by
  subst hp hy; exact go (fun _ => XS.iinc X.here K.1 (g := mkF m pc Ls st) rfl (dc K hd) hl hl') k
theorem i_goto (K : Cx p l e R s m meth c Z a0 W own nm bytes ml rt) (X : On p l e R s m args below meth c D Z n0 T A cells slots)  {o : Int} {pc' : Nat} (hd : decode bytes pc = .ok (.goto o, 3))  (ho : 0 ≤ (pc : Int) + o) (hp : ((pc : Int) + o).toNat = pc')
    (k : Go p e below (T.setTop (mkF m pc' Ls st)) G) : Go p e below (T.setTop (mkF m pc Ls (st))) G := by
  exact go (fun _ => XS.goto X.here K.1 (g := mkF m pc Ls (st)) rfl (pc0 := pc) (pc' := pc') rfl (dc K hd)  ho hp) k
theorem i_ifYes (K : Cx p l e R s m meth c Z a0 W own nm bytes ml rt) (X : On p l e R s m args below meth c D Z n0 T A cells slots) {cd : ClassFile.Cond} {x : Int32} {o : Int} {pc' : Nat} (hd : decode bytes pc = .ok (.ifCond cd o, 3)) (h : if_icmp.holds cd x 0 = true) (ho : 0 ≤ (pc : Int) + o) (hp : ((pc : Int) + o).toNat = pc')
    (k : Go p e below (T.setTop (mkF m pc' Ls st)) G) : Go p e below (T.setTop (mkF m pc Ls (.int x :: st))) G := by
  exact go (fun _ => XS.ifYes X.here K.1 (g := mkF m pc Ls (.int x :: st)) rfl (pc0 := pc) (pc' := pc') rfl (dc K hd) rfl ((if0 _ _).trans h) ho hp) k
theorem i_icmpYes (K : Cx p l e R s m meth c Z a0 W own nm bytes ml rt) (X : On p l e R s m args below meth c D Z n0 T A cells slots) {cd : ClassFile.Cond} {x y : Int32} {o : Int} {pc' : Nat} (hd : decode bytes pc = .ok (.if_icmp cd o, 3)) (h : if_icmp.holds cd x y = true) (ho : 0 ≤ (pc : Int) + o) (hp : ((pc : Int) + o).toNat = pc')
    (k : Go p e below (T.setTop (mkF m pc' Ls st)) G) : Go p e below (T.setTop (mkF m pc Ls (.int y :: .int x :: st))) G := by
  exact go (fun _ => XS.icmpYes X.here K.1 (g := mkF m pc Ls (.int y :: .int x :: st)) rfl (pc0 := pc) (pc' := pc') rfl (dc K hd) rfl h ho hp) k
theorem i_ifNo (K : Cx p l e R s m meth c Z a0 W own nm bytes ml rt) (X : On p l e R s m args below meth c D Z n0 T A cells slots) {cd : ClassFile.Cond} {x : Int32} {o : Int} {pc' : Nat} (hd : decode bytes pc = .ok (.ifCond cd o, 3)) (hp : pc + 3 = pc') (h : if_icmp.holds cd x 0 = false)
    (k : Go p e below (T.setTop (mkF m pc' Ls (st))) G) : Go p e below (T.setTop (mkF m pc Ls (.int x :: st))) G := by
  subst hp; exact go (fun _ => XS.ifNo X.here K.1 (g := mkF m pc Ls (.int x :: st)) rfl (dc K hd) rfl ((if0 _ _).trans h)) k
theorem i_icmpNo (K : Cx p l e R s m meth c Z a0 W own nm bytes ml rt) (X : On p l e R s m args below meth c D Z n0 T A cells slots) {cd : ClassFile.Cond} {x y : Int32} {o : Int} {pc' : Nat} (hd : decode bytes pc = .ok (.if_icmp cd o, 3)) (hp : pc + 3 = pc') (h : if_icmp.holds cd x y = false)
    (k : Go p e below (T.setTop (mkF m pc' Ls (st))) G) : Go p e below (T.setTop (mkF m pc Ls (.int y :: .int x :: st))) G := by
  subst hp; exact go (fun _ => XS.icmpNo X.here K.1 (g := mkF m pc Ls (.int y :: .int x :: st)) rfl (dc K hd) rfl h) k
theorem i_ifnullYes (K : Cx p l e R s m meth c Z a0 W own nm bytes ml rt) (X : On p l e R s m args below meth c D Z n0 T A cells slots)  {o : Int} {pc' : Nat} (hd : decode bytes pc = .ok (.ifnull o, 3))  (ho : 0 ≤ (pc : Int) + o) (hp : ((pc : Int) + o).toNat = pc')
    (k : Go p e below (T.setTop (mkF m pc' Ls st)) G) : Go p e below (T.setTop (mkF m pc Ls (.null :: st))) G := by
  exact go (fun _ => XS.ifnullYes X.here K.1 (g := mkF m pc Ls (.null :: st)) rfl (pc0 := pc) (pc' := pc') rfl (dc K hd) rfl ho hp) k
theorem i_ifnullNo (K : Cx p l e R s m meth c Z a0 W own nm bytes ml rt) (X : On p l e R s m args below meth c D Z n0 T A cells slots) {b : Addr} {o : Int} {pc' : Nat} (hd : decode bytes pc = .ok (.ifnull o, 3)) (hp : pc + 3 = pc')
    (k : Go p e below (T.setTop (mkF m pc' Ls (st))) G) : Go p e below (T.setTop (mkF m pc Ls (.ref b :: st))) G := by
  subst hp; exact go (fun _ => XS.ifnullNo X.here K.1 (g := mkF m pc Ls (.ref b :: st)) rfl (dc K hd) rfl) k
theorem i_ifnonnullYes (K : Cx p l e R s m meth c Z a0 W own nm bytes ml rt) (X : On p l e R s m args below meth c D Z n0 T A cells slots) {b : Addr} {o : Int} {pc' : Nat} (hd : decode bytes pc = .ok (.ifnonnull o, 3))  (ho : 0 ≤ (pc : Int) + o) (hp : ((pc : Int) + o).toNat = pc')
    (k : Go p e below (T.setTop (mkF m pc' Ls st)) G) : Go p e below (T.setTop (mkF m pc Ls (.ref b :: st))) G := by
  exact go (fun _ => XS.ifnonnullYes X.here K.1 (g := mkF m pc Ls (.ref b :: st)) rfl (pc0 := pc) (pc' := pc') rfl (dc K hd) rfl ho hp) k
theorem i_ifnonnullNo (K : Cx p l e R s m meth c Z a0 W own nm bytes ml rt) (X : On p l e R s m args below meth c D Z n0 T A cells slots) {o : Int} {pc' : Nat} (hd : decode bytes pc = .ok (.ifnonnull o, 3)) (hp : pc + 3 = pc')
    (k : Go p e below (T.setTop (mkF m pc' Ls (st))) G) : Go p e below (T.setTop (mkF m pc Ls (.null :: st))) G := by
  subst hp; exact go (fun _ => XS.ifnonnullNo X.here K.1 (g := mkF m pc Ls (.null :: st)) rfl (dc K hd) rfl) k
theorem i_dup2 (K : Cx p l e R s m meth c Z a0 W own nm bytes ml rt) (X : On p l e R s m args below meth c D Z n0 T A cells slots) {x y : Value} {pc' : Nat} (hd : decode bytes pc = .ok (.dup2, 1)) (hp : pc + 1 = pc') (h1 : x.category = 1) (h2 : y.category = 1)
    (k : Go p e below (T.setTop (mkF m pc' Ls (x :: y :: x :: y :: st))) G) : Go p e below (T.setTop (mkF m pc Ls (x :: y :: st))) G := by
  subst hp; exact go (fun _ => Jvm.Free.XT.dup2 X.here K.1 (g := mkF m pc Ls (x :: y :: st)) rfl (dc K hd) rfl h1 h2) k
theorem i_dup2L (K : Cx p l e R s m meth c Z a0 W own nm bytes ml rt) (X : On p l e R s m args below meth c D Z n0 T A cells slots) {x : Int64} {pc' : Nat} (hd : decode bytes pc = .ok (.dup2, 1)) (hp : pc + 1 = pc') 
    (k : Go p e below (T.setTop (mkF m pc' Ls (.long x :: .long x :: st))) G) : Go p e below (T.setTop (mkF m pc Ls (.long x :: st))) G := by
  subst hp; exact go (fun _ => Jvm.Free.XT.dup2L X.here K.1 (g := mkF m pc Ls (.long x :: st)) rfl (dc K hd) rfl) k
theorem i_dupX2 (K : Cx p l e R s m meth c Z a0 W own nm bytes ml rt) (X : On p l e R s m args below meth c D Z n0 T A cells slots) {x : Int32} {y : Int32} {z : Addr} {pc' : Nat} (hd : decode bytes pc = .ok (.dup_x2, 1)) (hp : pc + 1 = pc')
    (k : Go p e below (T.setTop (mkF m pc' Ls (.int x :: .int y :: .ref z :: .int x :: st))) G) : Go p e below (T.setTop (mkF m pc Ls (.int x :: .int y :: .ref z :: st))) G := by
  subst hp
  refine go (fun t hk => ?_) k
  have hdc := dc K hd
  jvm_step X.here [X.here.top, K.1, hdc, Value.category]
  exact hk
theorem i_dup2X1 (K : Cx p l e R s m meth c Z a0 W own nm bytes ml rt) (X : On p l e R s m args below meth c D Z n0 T A cells slots) {x : Int64} {z : Addr} {pc' : Nat} (hd : decode bytes pc = .ok (.dup2_x1, 1)) (hp : pc + 1 = pc')
    (k : Go p e below (T.setTop (mkF m pc' Ls (.long x :: .ref z :: .long x :: st))) G) : Go p e below (T.setTop (mkF m pc Ls (.long x :: .ref z :: st))) G := by
  subst hp
  refine go (fun t hk => ?_) k
  have hdc := dc K hd
  jvm_step X.here [X.here.top, K.1, hdc, Value.category]
  exact hk
theorem i_dup2X2 (K : Cx p l e R s m meth c Z a0 W own nm bytes ml rt) (X : On p l e R s m args below meth c D Z n0 T A cells slots) {x : Int64} {y : Int32} {z : Addr} {pc' : Nat} (hd : decode bytes pc = .ok (.dup2_x2, 1)) (hp : pc + 1 = pc')
    (k : Go p e below (T.setTop (mkF m pc' Ls (.long x :: .int y :: .ref z :: .long x :: st))) G) : Go p e below (T.setTop (mkF m pc Ls (.long x :: .int y :: .ref z :: st))) G := by
  subst hp
  refine go (fun t hk => ?_) k
  have hdc := dc K hd
  jvm_step X.here [X.here.top, K.1, hdc, Value.category]
  exact hk
theorem stOne {Ls Ls' : Array Slot} {i : Nat} {v : Value} {o : Slot} (h : One o) (hold : Ls[i]? = some o) (hv : v.category = 1) (e : Ls.setIfInBounds i (.val v) = Ls') : storeLocals Ls i v = some Ls' := by
  rw [← e]; exact XS.store1 hold h hv
theorem bs {α β : Type} {o : Option α} {f : α → Option β} {b : β} (h : o.bind f = some b) : ∃ a, o = some a ∧ f a = some b := Option.bind_eq_some_iff.mp h
end Instr
end Jvm.OwnKit
namespace Jvm.Pilot.@@N@@
open Jvm Jvm.ClassFile Sem Op Lib Jvm.Free Jvm.Stand Jvm.LawKit Jvm.RoadKit Jvm.OwnKit Bundle Jvm.Pilot.@@N@@.Jvm.D
def own_D : Dic
  | _ => ("", [])
theorem own_sep {Z : State} {a0 : Array Value} (hw : ∀ d ∈ tables_1, d.before a0 Z = true) : ∀ t, Sep Z (own_D t).2 := by
  intro t
  unfold own_D
  split
  · exact Sep.nil
section OwnWalk
variable {p : Program} {l : Launch} {e : Env} {s : State} {m : MethodId} {args : Array Value} {below : List Frame} {meth : Method} {c : Code} {Z : State} {a0 : Array Value} {n0 : Nat} {T : State} {A : AH} {cells slots : Nat}
/-! body 2: HashingFreePinLaw.expected(III)I -/
theorem d2_0 : decode method_3_code 0 = .ok (.iload_n 1, 1) := by decide +kernel
theorem d2_1 : decode method_3_code 1 = .ok (.iload_n 0, 1) := by decide +kernel
theorem d2_2 : decode method_3_code 2 = .ok (.iushr, 1) := by decide +kernel
theorem d2_3 : decode method_3_code 3 = .ok (.iconst 1, 1) := by decide +kernel
theorem d2_4 : decode method_3_code 4 = .ok (.iand, 1) := by decide +kernel
theorem d2_5 : decode method_3_code 5 = .ok (.ifCond .eq 7, 3) := by decide +kernel
theorem d2_8 : decode method_3_code 8 = .ok (.iconst (-1), 1) := by decide +kernel
theorem d2_9 : decode method_3_code 9 = .ok (.goto 4, 3) := by decide +kernel
theorem d2_12 : decode method_3_code 12 = .ok (.iload_n 2, 1) := by decide +kernel
theorem d2_13 : decode method_3_code 13 = .ok (.ireturn, 1) := by decide +kernel
theorem pd_2 : parseMethodDescriptor "(III)I" = some ⟨[.int, .int, .int], some .int⟩ := by decide +kernel
abbrev own_R2 : Room := { frames := 0, cells := 0, slots := 0, locals := 0 }
def f2_13 (s0 : Int32) : Int32 :=
  s0
set_option maxRecDepth 65536 in
set_option maxHeartbeats 4000000 in
theorem w2_13 (K : Cx p l e own_R2 s m meth c Z a0 tables_1 "com/example/thabiti/thabiti/core/HashingFreePinLaw" "expected" method_3_code 3 (some .int)) (X : On p l e own_R2 s m args below meth c own_D Z n0 T A cells slots) (i0 : Int32) (i1 : Int32) (i2 : Int32) (s0 : Int32) (hc : cells + 0 ≤ 0) (hs : slots + 0 ≤ 0) :
    Go p e below (T.setTop (mkF m 13 #[.val (.int i0), .val (.int i1), .val (.int i2)] [(.int s0)])) (Fini own_D Z n0 s own_R2 (some (.int (f2_13 s0))) A) := by
  unfold f2_13
  exact retI K X (show cells ≤ 0 by omega) (show slots ≤ 0 by omega) d2_13
def f2_3 (i2 : Int32) (s0 : Int32) : Int32 :=
  if (s0 &&& (1 : Int32)) = (0 : Int32) then (f2_13 i2)
  else (f2_13 (-1 : Int32))
set_option maxRecDepth 65536 in
set_option maxHeartbeats 4000000 in
theorem w2_3 (K : Cx p l e own_R2 s m meth c Z a0 tables_1 "com/example/thabiti/thabiti/core/HashingFreePinLaw" "expected" method_3_code 3 (some .int)) (X : On p l e own_R2 s m args below meth c own_D Z n0 T A cells slots) (i0 : Int32) (i1 : Int32) (i2 : Int32) (s0 : Int32) (hc : cells + 0 ≤ 0) (hs : slots + 0 ≤ 0) :
    Go p e below (T.setTop (mkF m 3 #[.val (.int i0), .val (.int i1), .val (.int i2)] [(.int s0)])) (Fini own_D Z n0 s own_R2 (some (.int (f2_3 i2 s0))) A) := by
  unfold f2_3
  refine i_iconst (pc' := 4) (v := (1 : Int32)) K X d2_3 rfl rfl ?_
  refine i_iand (pc' := 5) K X d2_4 rfl ?_
  by_cases hc5 : (s0 &&& (1 : Int32)) = (0 : Int32)
  · rw [if_pos hc5]
    refine i_ifYes (pc' := 12) K X d2_5 (teq hc5).1 (by decide) (by decide) ?_
    refine i_iloadN (pc' := 13) K X d2_12 rfl rfl ?_
    exact w2_13 K X i0 i1 i2 i2 (show cells + 0 ≤ 0 by omega) (show slots + 0 ≤ 0 by omega)
  · rw [if_neg hc5]
    refine i_ifNo (pc' := 8) K X d2_5 rfl (feq hc5).1 ?_
    refine i_iconst (pc' := 9) (v := (-1 : Int32)) K X d2_8 rfl rfl ?_
    refine i_goto (pc' := 13) K X d2_9 (by decide) (by decide) ?_
    exact w2_13 K X i0 i1 i2 (-1 : Int32) (show cells + 0 ≤ 0 by omega) (show slots + 0 ≤ 0 by omega)
def f2_0 (i0 : Int32) (i1 : Int32) (i2 : Int32) : Int32 :=
  f2_3 i2 (((i1).toUInt32 >>> (i0 &&& 31).toUInt32).toInt32)
set_option maxRecDepth 65536 in
set_option maxHeartbeats 4000000 in
theorem w2_0 (K : Cx p l e own_R2 s m meth c Z a0 tables_1 "com/example/thabiti/thabiti/core/HashingFreePinLaw" "expected" method_3_code 3 (some .int)) (X : On p l e own_R2 s m args below meth c own_D Z n0 T A cells slots) (i0 : Int32) (i1 : Int32) (i2 : Int32) (hc : cells + 0 ≤ 0) (hs : slots + 0 ≤ 0) :
    Go p e below (T.setTop (mkF m 0 #[.val (.int i0), .val (.int i1), .val (.int i2)] [])) (Fini own_D Z n0 s own_R2 (some (.int (f2_0 i0 i1 i2))) A) := by
  unfold f2_0
  refine i_iloadN (pc' := 1) K X d2_0 rfl rfl ?_
  refine i_iloadN (pc' := 2) K X d2_1 rfl rfl ?_
  refine i_iushr (pc' := 3) K X d2_2 rfl ?_
  exact w2_3 K X i0 i1 i2 (((i1).toUInt32 >>> (i0 &&& 31).toUInt32).toInt32) (show cells + 0 ≤ 0 by omega) (show slots + 0 ≤ 0 by omega)
theorem pn_2 : plainName "com/example/thabiti/thabiti/core/HashingFreePinLaw" = true := by first | (simp [plainName, overriddenIn]; done) | decide +kernel
theorem rm2 {l : Launch} {Z : State} {a0 : Array Value} {n0 : Nat} (hw : ∀ d ∈ tables_1, d.before a0 Z = true) (A : AH) (i0 : Int32) (i1 : Int32) (i2 : Int32) :
    Met l own_D Z n0 (⟨"com/example/thabiti/thabiti/core/HashingFreePinLaw", "expected", "(III)I"⟩ : MethodName) method_3_code 3 (some .int) own_R2 [(.int i0), (.int i1), (.int i2)] A (some (.int (f2_0 i0 i1 i2))) A :=
  met (W := tables_1) (a0 := a0) (own := "com/example/thabiti/thabiti/core/HashingFreePinLaw") (nm := "expected") (L0 := #[.val (.int i0), .val (.int i1), .val (.int i2)]) (plainFor_of_name pn_2) hw rfl rfl (fun m => by first | (simp [entryFrame, mkF, argsToLocals, Value.category]; done) | rfl) (fun p e s m below meth c T K X => w2_0 K X i0 i1 i2 (show 0 + 0 ≤ 0 by decide) (show 0 + 0 ≤ 0 by decide))
/-! body 1: HashingFreePinLaw.fill([IIII)V -/
theorem d1_0 : decode method_4_code 0 = .ok (.iload_n 1, 1) := by decide +kernel
theorem d1_1 : decode method_4_code 1 = .ok (.aload_n 0, 1) := by decide +kernel
theorem d1_2 : decode method_4_code 2 = .ok (.arraylength, 1) := by decide +kernel
theorem d1_3 : decode method_4_code 3 = .ok (.if_icmp .ge 12, 3) := by decide +kernel
theorem d1_6 : decode method_4_code 6 = .ok (.aload_n 0, 1) := by decide +kernel
theorem d1_7 : decode method_4_code 7 = .ok (.iload_n 1, 1) := by decide +kernel
theorem d1_8 : decode method_4_code 8 = .ok (.iload_n 1, 1) := by decide +kernel
theorem d1_9 : decode method_4_code 9 = .ok (.iload_n 2, 1) := by decide +kernel
theorem d1_10 : decode method_4_code 10 = .ok (.iload_n 3, 1) := by decide +kernel
theorem d1_11 : decode method_4_code 11 = .ok (.invokestatic 23, 3) := by decide +kernel
theorem d1_14 : decode method_4_code 14 = .ok (.iastore, 1) := by decide +kernel
theorem d1_15 : decode method_4_code 15 = .ok (.return_, 1) := by decide +kernel
theorem pd_1 : parseMethodDescriptor "([IIII)V" = some ⟨[(.array .int), .int, .int, .int], none⟩ := by decide +kernel
abbrev own_R1 : Room := { frames := 1, cells := 0, slots := 0, locals := 16 }
def f1_15 (A : AH)  : Option (AH) :=
  some A
set_option maxRecDepth 65536 in
set_option maxHeartbeats 4000000 in
theorem w1_15 (K : Cx p l e own_R1 s m meth c Z a0 tables_1 "com/example/thabiti/thabiti/core/HashingFreePinLaw" "fill" method_4_code 4 none) (sep : ∀ t, Sep Z (own_D t).2) (X : On p l e own_R1 s m args below meth c own_D Z n0 T A cells slots) (o0 : Nat) (i1 : Int32) (i2 : Int32) (i3 : Int32) (hc : cells + 0 ≤ 0) (hs : slots + 0 ≤ 0) {q : AH} (hf : f1_15 A  = some q) :
    Go p e below (T.setTop (mkF m 15 #[.val (.ref (n0 + o0)), .val (.int i1), .val (.int i2), .val (.int i3)] [])) (Fini own_D Z n0 s own_R1 none q) := by
  unfold f1_15 at hf
  cases hf
  exact retV K X (show cells ≤ 0 by omega) (show slots ≤ 0 by omega) d1_15
def f1_0 (A : AH) (o0 : Nat) (i1 : Int32) (i2 : Int32) (i3 : Int32) : Option (AH) :=
  (h_alen A 0 o0).bind fun v1 =>
  if i1 < v1 then ((h_aset A 0 o0 i1 (.int (f2_0 i1 i2 i3))).bind fun A3 =>
  f1_15 A3 )
  else (f1_15 A )
set_option maxRecDepth 65536 in
set_option maxHeartbeats 4000000 in
theorem w1_0 (K : Cx p l e own_R1 s m meth c Z a0 tables_1 "com/example/thabiti/thabiti/core/HashingFreePinLaw" "fill" method_4_code 4 none) (sep : ∀ t, Sep Z (own_D t).2) (X : On p l e own_R1 s m args below meth c own_D Z n0 T A cells slots) (o0 : Nat) (i1 : Int32) (i2 : Int32) (i3 : Int32) (hc : cells + 0 ≤ 0) (hs : slots + 0 ≤ 0) {q : AH} (hf : f1_0 A o0 i1 i2 i3 = some q) :
    Go p e below (T.setTop (mkF m 0 #[.val (.ref (n0 + o0)), .val (.int i1), .val (.int i2), .val (.int i3)] [])) (Fini own_D Z n0 s own_R1 none q) := by
  unfold f1_0 at hf
  refine i_iloadN (pc' := 1) K X d1_0 rfl rfl ?_
  refine i_aloadN (pc' := 2) K X d1_1 rfl rfl rfl ?_
  obtain ⟨v1, g1, hf⟩ := bs hf
  refine h_alen' (pc' := 3) K X (t := 0) (by decide) g1 d1_2 rfl ?_
  by_cases hc3 : i1 < v1
  · rw [if_pos hc3] at hf
    refine i_icmpNo (pc' := 6) K X d1_3 rfl (tlt hc3).2.1 ?_
    refine i_aloadN (pc' := 7) K X d1_6 rfl rfl rfl ?_
    refine i_iloadN (pc' := 8) K X d1_7 rfl rfl ?_
    refine i_iloadN (pc' := 9) K X d1_8 rfl rfl ?_
    refine i_iloadN (pc' := 10) K X d1_9 rfl rfl ?_
    refine i_iloadN (pc' := 11) K X d1_10 rfl rfl ?_
    refine calls (pc' := 14) (kc := cells) (ks := slots) (S' := [(.int (f2_0 i1 i2 i3)), (.int i1), (.ref (n0 + o0))]) (st := [(.int i1), (.ref (n0 + o0))]) K X (i1 := 5) rfl (i2 := 6) rfl (i3 := 3) rfl (i4 := 7) rfl (by decide) (rm2 (l := l) (n0 := n0) (K.2.2.2.2.2.2.2.2) A i1 i2 i3) pd_2 rfl d1_11 rfl rfl (by decide) (w := 2) (Nat.le_of_eq rfl) (by decide) (show cells + 0 ≤ 0 by omega) (show slots + 0 ≤ 0 by omega) rfl rfl rfl rfl (fun T2 X2 => ?_)
    obtain ⟨A3, g3, hf⟩ := bs hf
    refine ast0 (pc' := 15) K X2 g3 d1_14 rfl (fun T3 X3 => ?_)
    exact w1_15 K sep X3 o0 i1 i2 i3 (show cells + 0 ≤ 0 by omega) (show slots + 0 ≤ 0 by omega) hf
  · rw [if_neg hc3] at hf
    refine i_icmpYes (pc' := 15) K X d1_3 (flt hc3).2.1 (by decide) (by decide) ?_
    exact w1_15 K sep X o0 i1 i2 i3 (show cells + 0 ≤ 0 by omega) (show slots + 0 ≤ 0 by omega) hf
theorem pn_1 : plainName "com/example/thabiti/thabiti/core/HashingFreePinLaw" = true := by first | (simp [plainName, overriddenIn]; done) | decide +kernel
theorem rm1 {l : Launch} {Z : State} {a0 : Array Value} {n0 : Nat} (hw : ∀ d ∈ tables_1, d.before a0 Z = true) (A : AH) (o0 : Nat) (i1 : Int32) (i2 : Int32) (i3 : Int32) {q : AH} (hf : f1_0 A o0 i1 i2 i3 = some q) :
    Met l own_D Z n0 (⟨"com/example/thabiti/thabiti/core/HashingFreePinLaw", "fill", "([IIII)V"⟩ : MethodName) method_4_code 4 none own_R1 [(.ref (n0 + o0)), (.int i1), (.int i2), (.int i3)] A none q :=
  met (W := tables_1) (a0 := a0) (own := "com/example/thabiti/thabiti/core/HashingFreePinLaw") (nm := "fill") (L0 := #[.val (.ref (n0 + o0)), .val (.int i1), .val (.int i2), .val (.int i3)]) (plainFor_of_name pn_1) hw rfl rfl (fun m => by first | (simp [entryFrame, mkF, argsToLocals, Value.category]; done) | rfl) (fun p e s m below meth c T K X => w1_0 K (own_sep hw) X o0 i1 i2 i3 (show 0 + 0 ≤ 0 by decide) (show 0 + 0 ≤ 0 by decide) hf)
/-! body 3: Hashing.free([II)I -/
theorem d3_0 : decode prog_16_method_3_code 0 = .ok (.aload_n 0, 1) := by decide +kernel
theorem d3_1 : decode prog_16_method_3_code 1 = .ok (.arraylength, 1) := by decide +kernel
theorem d3_2 : decode prog_16_method_3_code 2 = .ok (.iconst 1, 1) := by decide +kernel
theorem d3_3 : decode prog_16_method_3_code 3 = .ok (.isub, 1) := by decide +kernel
theorem d3_4 : decode prog_16_method_3_code 4 = .ok (.istore_n 2, 1) := by decide +kernel
theorem d3_5 : decode prog_16_method_3_code 5 = .ok (.iload_n 1, 1) := by decide +kernel
theorem d3_6 : decode prog_16_method_3_code 6 = .ok (.iload_n 2, 1) := by decide +kernel
theorem d3_7 : decode prog_16_method_3_code 7 = .ok (.iand, 1) := by decide +kernel
theorem d3_8 : decode prog_16_method_3_code 8 = .ok (.istore_n 3, 1) := by decide +kernel
theorem d3_9 : decode prog_16_method_3_code 9 = .ok (.aload_n 0, 1) := by decide +kernel
theorem d3_10 : decode prog_16_method_3_code 10 = .ok (.iload_n 3, 1) := by decide +kernel
theorem d3_11 : decode prog_16_method_3_code 11 = .ok (.iaload, 1) := by decide +kernel
theorem d3_12 : decode prog_16_method_3_code 12 = .ok (.iconst (-1), 1) := by decide +kernel
theorem d3_13 : decode prog_16_method_3_code 13 = .ok (.if_icmp .eq 12, 3) := by decide +kernel
theorem d3_16 : decode prog_16_method_3_code 16 = .ok (.iload_n 3, 1) := by decide +kernel
theorem d3_17 : decode prog_16_method_3_code 17 = .ok (.iconst 1, 1) := by decide +kernel
theorem d3_18 : decode prog_16_method_3_code 18 = .ok (.iadd, 1) := by decide +kernel
theorem d3_19 : decode prog_16_method_3_code 19 = .ok (.iload_n 2, 1) := by decide +kernel
theorem d3_20 : decode prog_16_method_3_code 20 = .ok (.iand, 1) := by decide +kernel
theorem d3_21 : decode prog_16_method_3_code 21 = .ok (.istore_n 3, 1) := by decide +kernel
theorem d3_22 : decode prog_16_method_3_code 22 = .ok (.goto (-13), 3) := by decide +kernel
theorem d3_25 : decode prog_16_method_3_code 25 = .ok (.iload_n 3, 1) := by decide +kernel
theorem d3_26 : decode prog_16_method_3_code 26 = .ok (.ireturn, 1) := by decide +kernel
theorem pd_3 : parseMethodDescriptor "([II)I" = some ⟨[(.array .int), .int], some .int⟩ := by decide +kernel
abbrev own_R3 : Room := { frames := 0, cells := 0, slots := 0, locals := 0 }
def g3_9 (rec9 : AH → Nat → Int32 → Int32 → Option (Int32 × AH)) (A : AH) (o0 : Nat) (i2 : Int32) (i3 : Int32) : Option (Int32 × AH) :=
  (asI (h_aget A 0 o0 i3)).bind fun v1 =>
  if v1 = (-1 : Int32) then (some (i3, A))
  else (rec9 A o0 i2 ((i3 + (1 : Int32)) &&& i2))
set_option maxRecDepth 65536 in
set_option maxHeartbeats 4000000 in
theorem v3_9 (K : Cx p l e own_R3 s m meth c Z a0 tables_1 "com/example/thabiti/thabiti/core/Hashing" "free" prog_16_method_3_code 4 (some .int)) (sep : ∀ t, Sep Z (own_D t).2) {rec9 : AH → Nat → Int32 → Int32 → Option (Int32 × AH)} (H9 : ∀ (T : State) (A : AH) (cells slots : Nat), On p l e own_R3 s m args below meth c own_D Z n0 T A cells slots → ∀ (o0 : Nat) (i1 : Int32) (i2 : Int32) (i3 : Int32) (_u : Unit), cells + 0 ≤ 0 → slots + 0 ≤ 0 → ∀ q, rec9 A o0 i2 i3 = some q → Go p e below (T.setTop (mkF m 9 #[.val (.ref (n0 + o0)), .val (.int i1), .val (.int i2), .val (.int i3)] [])) (Fini own_D Z n0 s own_R3 (some (.int q.1)) q.2)) (X : On p l e own_R3 s m args below meth c own_D Z n0 T A cells slots) (o0 : Nat) (i1 : Int32) (i2 : Int32) (i3 : Int32) (hc : cells + 0 ≤ 0) (hs : slots + 0 ≤ 0) {q : Int32 × AH} (hf : g3_9 rec9 A o0 i2 i3 = some q) :
    Go p e below (T.setTop (mkF m 9 #[.val (.ref (n0 + o0)), .val (.int i1), .val (.int i2), .val (.int i3)] [])) (Fini own_D Z n0 s own_R3 (some (.int q.1)) q.2) := by
  unfold g3_9 at hf
  refine i_aloadN (pc' := 10) K X d3_9 rfl rfl rfl ?_
  refine i_iloadN (pc' := 11) K X d3_10 rfl rfl ?_
  obtain ⟨v1, g1, hf⟩ := bs hf
  refine ld0 (pc' := 12) K X g1 d3_11 rfl ?_
  refine i_iconst (pc' := 13) (v := (-1 : Int32)) K X d3_12 rfl rfl ?_
  by_cases hc13 : v1 = (-1 : Int32)
  · rw [if_pos hc13] at hf
    refine i_icmpYes (pc' := 25) K X d3_13 (teq hc13).1 (by decide) (by decide) ?_
    refine i_iloadN (pc' := 26) K X d3_25 rfl rfl ?_
    cases hf
    exact retI K X (show cells ≤ 0 by omega) (show slots ≤ 0 by omega) d3_26
  · rw [if_neg hc13] at hf
    refine i_icmpNo (pc' := 16) K X d3_13 rfl (feq hc13).1 ?_
    refine i_iloadN (pc' := 17) K X d3_16 rfl rfl ?_
    refine i_iconst (pc' := 18) (v := (1 : Int32)) K X d3_17 rfl rfl ?_
    refine i_iadd (pc' := 19) K X d3_18 rfl ?_
    refine i_iloadN (pc' := 20) K X d3_19 rfl rfl ?_
    refine i_iand (pc' := 21) K X d3_20 rfl ?_
    refine i_istoreN (pc' := 22) (Ls' := #[.val (.ref (n0 + o0)), .val (.int i1), .val (.int i2), .val (.int ((i3 + (1 : Int32)) &&& i2))]) K X d3_21 rfl rfl ?_
    refine i_goto (pc' := 9) K X d3_22 (by decide) (by decide) ?_
    exact H9 _ _ _ _ X o0 i1 i2 ((i3 + (1 : Int32)) &&& i2) () (show cells + 0 ≤ 0 by omega) (show slots + 0 ≤ 0 by omega) _ hf
def f3_9 : Nat → AH → Nat → Int32 → Int32 → Option (Int32 × AH)
  | 0 => fun _ _ _ _ => none
  | k + 1 => g3_9 (f3_9 k)
theorem w3_9 (K : Cx p l e own_R3 s m meth c Z a0 tables_1 "com/example/thabiti/thabiti/core/Hashing" "free" prog_16_method_3_code 4 (some .int)) (sep : ∀ t, Sep Z (own_D t).2) : ∀ (k : Nat) (T : State) (A : AH) (cells slots : Nat), On p l e own_R3 s m args below meth c own_D Z n0 T A cells slots → ∀ (o0 : Nat) (i1 : Int32) (i2 : Int32) (i3 : Int32) (_u : Unit), cells + 0 ≤ 0 → slots + 0 ≤ 0 → ∀ q, f3_9 k A o0 i2 i3 = some q → Go p e below (T.setTop (mkF m 9 #[.val (.ref (n0 + o0)), .val (.int i1), .val (.int i2), .val (.int i3)] [])) (Fini own_D Z n0 s own_R3 (some (.int q.1)) q.2) := by
  intro k
  induction k with
  | zero => intro T A cells slots X o0 i1 i2 i3 _ hc hs q hf; exact nomatch hf
  | succ k ih => intro T A cells slots X o0 i1 i2 i3 _ hc hs q hf; exact v3_9 K sep ih X o0 i1 i2 i3 hc hs hf
def f3_0 (A : AH) (o0 : Nat) (i1 : Int32) : Option (Int32 × AH) :=
  (h_alen A 0 o0).bind fun v1 =>
  f3_9 40 A o0 (v1 - (1 : Int32)) (i1 &&& (v1 - (1 : Int32)))
set_option maxRecDepth 65536 in
set_option maxHeartbeats 4000000 in
theorem w3_0 (K : Cx p l e own_R3 s m meth c Z a0 tables_1 "com/example/thabiti/thabiti/core/Hashing" "free" prog_16_method_3_code 4 (some .int)) (sep : ∀ t, Sep Z (own_D t).2) (X : On p l e own_R3 s m args below meth c own_D Z n0 T A cells slots) (o0 : Nat) (i1 : Int32) (hc : cells + 0 ≤ 0) (hs : slots + 0 ≤ 0) {q : Int32 × AH} (hf : f3_0 A o0 i1 = some q) :
    Go p e below (T.setTop (mkF m 0 #[.val (.ref (n0 + o0)), .val (.int i1), .unset, .unset] [])) (Fini own_D Z n0 s own_R3 (some (.int q.1)) q.2) := by
  unfold f3_0 at hf
  refine i_aloadN (pc' := 1) K X d3_0 rfl rfl rfl ?_
  obtain ⟨v1, g1, hf⟩ := bs hf
  refine h_alen' (pc' := 2) K X (t := 0) (by decide) g1 d3_1 rfl ?_
  refine i_iconst (pc' := 3) (v := (1 : Int32)) K X d3_2 rfl rfl ?_
  refine i_isub (pc' := 4) K X d3_3 rfl ?_
  refine i_istoreN (pc' := 5) (Ls' := #[.val (.ref (n0 + o0)), .val (.int i1), .val (.int (v1 - (1 : Int32))), .unset]) K X d3_4 rfl rfl ?_
  refine i_iloadN (pc' := 6) K X d3_5 rfl rfl ?_
  refine i_iloadN (pc' := 7) K X d3_6 rfl rfl ?_
  refine i_iand (pc' := 8) K X d3_7 rfl ?_
  refine i_istoreN (pc' := 9) (Ls' := #[.val (.ref (n0 + o0)), .val (.int i1), .val (.int (v1 - (1 : Int32))), .val (.int (i1 &&& (v1 - (1 : Int32))))]) K X d3_8 rfl rfl ?_
  exact w3_9 K sep 40 _ _ _ _ X o0 i1 (v1 - (1 : Int32)) (i1 &&& (v1 - (1 : Int32))) () (show cells + 0 ≤ 0 by omega) (show slots + 0 ≤ 0 by omega) _ hf
theorem pn_3 : plainName "com/example/thabiti/thabiti/core/Hashing" = true := by first | (simp [plainName, overriddenIn]; done) | decide +kernel
theorem rm3 {l : Launch} {Z : State} {a0 : Array Value} {n0 : Nat} (hw : ∀ d ∈ tables_1, d.before a0 Z = true) (A : AH) (o0 : Nat) (i1 : Int32) {q : Int32 × AH} (hf : f3_0 A o0 i1 = some q) :
    Met l own_D Z n0 (⟨"com/example/thabiti/thabiti/core/Hashing", "free", "([II)I"⟩ : MethodName) prog_16_method_3_code 4 (some .int) own_R3 [(.ref (n0 + o0)), (.int i1)] A (some (.int q.1)) q.2 :=
  met (W := tables_1) (a0 := a0) (own := "com/example/thabiti/thabiti/core/Hashing") (nm := "free") (L0 := #[.val (.ref (n0 + o0)), .val (.int i1), .unset, .unset]) (plainFor_of_name pn_3) hw rfl rfl (fun m => by first | (simp [entryFrame, mkF, argsToLocals, Value.category]; done) | rfl) (fun p e s m below meth c T K X => w3_0 K (own_sep hw) X o0 i1 (show 0 + 0 ≤ 0 by decide) (show 0 + 0 ≤ 0 by decide) hf)
/-! body 4: HashingFreePinLaw.ok([IIIIII)Z -/
theorem d4_0 : decode method_5_code 0 = .ok (.iload_n 1, 1) := by decide +kernel
theorem d4_1 : decode method_5_code 1 = .ok (.aload_n 0, 1) := by decide +kernel
theorem d4_2 : decode method_5_code 2 = .ok (.arraylength, 1) := by decide +kernel
theorem d4_3 : decode method_5_code 3 = .ok (.if_icmp .lt 5, 3) := by decide +kernel
theorem d4_6 : decode method_5_code 6 = .ok (.iconst 1, 1) := by decide +kernel
theorem d4_7 : decode method_5_code 7 = .ok (.ireturn, 1) := by decide +kernel
theorem d4_8 : decode method_5_code 8 = .ok (.iload_n 1, 1) := by decide +kernel
theorem d4_9 : decode method_5_code 9 = .ok (.iload_n 2, 1) := by decide +kernel
theorem d4_10 : decode method_5_code 10 = .ok (.iload_n 3, 1) := by decide +kernel
theorem d4_11 : decode method_5_code 11 = .ok (.invokestatic 23, 3) := by decide +kernel
theorem d4_14 : decode method_5_code 14 = .ok (.istore 6, 2) := by decide +kernel
theorem d4_16 : decode method_5_code 16 = .ok (.aload_n 0, 1) := by decide +kernel
theorem d4_17 : decode method_5_code 17 = .ok (.iload_n 1, 1) := by decide +kernel
theorem d4_18 : decode method_5_code 18 = .ok (.iaload, 1) := by decide +kernel
theorem d4_19 : decode method_5_code 19 = .ok (.iload 6, 2) := by decide +kernel
theorem d4_21 : decode method_5_code 21 = .ok (.if_icmp .eq 5, 3) := by decide +kernel
theorem d4_24 : decode method_5_code 24 = .ok (.iconst 0, 1) := by decide +kernel
theorem d4_25 : decode method_5_code 25 = .ok (.ireturn, 1) := by decide +kernel
theorem d4_26 : decode method_5_code 26 = .ok (.iload 6, 2) := by decide +kernel
theorem d4_28 : decode method_5_code 28 = .ok (.iconst (-1), 1) := by decide +kernel
theorem d4_29 : decode method_5_code 29 = .ok (.if_icmp .eq 5, 3) := by decide +kernel
theorem d4_32 : decode method_5_code 32 = .ok (.iconst 1, 1) := by decide +kernel
theorem d4_33 : decode method_5_code 33 = .ok (.ireturn, 1) := by decide +kernel
theorem d4_34 : decode method_5_code 34 = .ok (.aload_n 0, 1) := by decide +kernel
theorem d4_35 : decode method_5_code 35 = .ok (.arraylength, 1) := by decide +kernel
theorem d4_36 : decode method_5_code 36 = .ok (.iconst 1, 1) := by decide +kernel
theorem d4_37 : decode method_5_code 37 = .ok (.isub, 1) := by decide +kernel
theorem d4_38 : decode method_5_code 38 = .ok (.istore 7, 2) := by decide +kernel
theorem d4_40 : decode method_5_code 40 = .ok (.iload_n 1, 1) := by decide +kernel
theorem d4_41 : decode method_5_code 41 = .ok (.iload 4, 2) := by decide +kernel
theorem d4_43 : decode method_5_code 43 = .ok (.isub, 1) := by decide +kernel
theorem d4_44 : decode method_5_code 44 = .ok (.iload 7, 2) := by decide +kernel
theorem d4_46 : decode method_5_code 46 = .ok (.iand, 1) := by decide +kernel
theorem d4_47 : decode method_5_code 47 = .ok (.iload 5, 2) := by decide +kernel
theorem d4_49 : decode method_5_code 49 = .ok (.if_icmp .lt 7, 3) := by decide +kernel
theorem d4_52 : decode method_5_code 52 = .ok (.iconst 1, 1) := by decide +kernel
theorem d4_53 : decode method_5_code 53 = .ok (.goto 4, 3) := by decide +kernel
theorem d4_56 : decode method_5_code 56 = .ok (.iconst 0, 1) := by decide +kernel
theorem d4_57 : decode method_5_code 57 = .ok (.ireturn, 1) := by decide +kernel
theorem pd_4 : parseMethodDescriptor "([IIIIII)Z" = some ⟨[(.array .int), .int, .int, .int, .int, .int], some .boolean⟩ := by decide +kernel
abbrev own_R4 : Room := { frames := 1, cells := 0, slots := 0, locals := 14 }
def f4_57 (A : AH) (s0 : Int32) : Option (Int32 × AH) :=
  some ((nar .boolean s0), A)
set_option maxRecDepth 65536 in
set_option maxHeartbeats 4000000 in
theorem w4_57 (K : Cx p l e own_R4 s m meth c Z a0 tables_1 "com/example/thabiti/thabiti/core/HashingFreePinLaw" "ok" method_5_code 8 (some .boolean)) (sep : ∀ t, Sep Z (own_D t).2) (X : On p l e own_R4 s m args below meth c own_D Z n0 T A cells slots) (o0 : Nat) (i1 : Int32) (i2 : Int32) (i3 : Int32) (i4 : Int32) (i5 : Int32) (i6 : Int32) (i7 : Int32) (s0 : Int32) (hc : cells + 0 ≤ 0) (hs : slots + 0 ≤ 0) {q : Int32 × AH} (hf : f4_57 A s0 = some q) :
    Go p e below (T.setTop (mkF m 57 #[.val (.ref (n0 + o0)), .val (.int i1), .val (.int i2), .val (.int i3), .val (.int i4), .val (.int i5), .val (.int i6), .val (.int i7)] [(.int s0)])) (Fini own_D Z n0 s own_R4 (some (.int q.1)) q.2) := by
  unfold f4_57 at hf
  cases hf
  exact retB K (by simp) X (show cells ≤ 0 by omega) (show slots ≤ 0 by omega) d4_57
def f4_29 (A : AH) (o0 : Nat) (i1 : Int32) (i4 : Int32) (i5 : Int32) (s0 : Int32) (s1 : Int32) : Option (Int32 × AH) :=
  if s1 = s0 then ((h_alen A 0 o0).bind fun v1 =>
  if ((i1 - i4) &&& (v1 - (1 : Int32))) < i5 then (f4_57 A (0 : Int32))
  else (f4_57 A (1 : Int32)))
  else (some ((nar .boolean (1 : Int32)), A))
set_option maxRecDepth 65536 in
set_option maxHeartbeats 4000000 in
theorem w4_29 (K : Cx p l e own_R4 s m meth c Z a0 tables_1 "com/example/thabiti/thabiti/core/HashingFreePinLaw" "ok" method_5_code 8 (some .boolean)) (sep : ∀ t, Sep Z (own_D t).2) (X : On p l e own_R4 s m args below meth c own_D Z n0 T A cells slots) (o0 : Nat) (i1 : Int32) (i2 : Int32) (i3 : Int32) (i4 : Int32) (i5 : Int32) (i6 : Int32) (s0 : Int32) (s1 : Int32) (hc : cells + 0 ≤ 0) (hs : slots + 0 ≤ 0) {q : Int32 × AH} (hf : f4_29 A o0 i1 i4 i5 s0 s1 = some q) :
    Go p e below (T.setTop (mkF m 29 #[.val (.ref (n0 + o0)), .val (.int i1), .val (.int i2), .val (.int i3), .val (.int i4), .val (.int i5), .val (.int i6), .unset] [(.int s0), (.int s1)])) (Fini own_D Z n0 s own_R4 (some (.int q.1)) q.2) := by
  unfold f4_29 at hf
  by_cases hc29 : s1 = s0
  · rw [if_pos hc29] at hf
    refine i_icmpYes (pc' := 34) K X d4_29 (teq hc29).1 (by decide) (by decide) ?_
    refine i_aloadN (pc' := 35) K X d4_34 rfl rfl rfl ?_
    obtain ⟨v1, g1, hf⟩ := bs hf
    refine h_alen' (pc' := 36) K X (t := 0) (by decide) g1 d4_35 rfl ?_
    refine i_iconst (pc' := 37) (v := (1 : Int32)) K X d4_36 rfl rfl ?_
    refine i_isub (pc' := 38) K X d4_37 rfl ?_
    refine i_istore (pc' := 40) (Ls' := #[.val (.ref (n0 + o0)), .val (.int i1), .val (.int i2), .val (.int i3), .val (.int i4), .val (.int i5), .val (.int i6), .val (.int (v1 - (1 : Int32)))]) K X d4_38 rfl rfl ?_
    refine i_iloadN (pc' := 41) K X d4_40 rfl rfl ?_
    refine i_iload (pc' := 43) K X d4_41 rfl rfl ?_
    refine i_isub (pc' := 44) K X d4_43 rfl ?_
    refine i_iload (pc' := 46) K X d4_44 rfl rfl ?_
    refine i_iand (pc' := 47) K X d4_46 rfl ?_
    refine i_iload (pc' := 49) K X d4_47 rfl rfl ?_
    by_cases hc49 : ((i1 - i4) &&& (v1 - (1 : Int32))) < i5
    · rw [if_pos hc49] at hf
      refine i_icmpYes (pc' := 56) K X d4_49 (tlt hc49).1 (by decide) (by decide) ?_
      refine i_iconst (pc' := 57) (v := (0 : Int32)) K X d4_56 rfl rfl ?_
      exact w4_57 K sep X o0 i1 i2 i3 i4 i5 i6 (v1 - (1 : Int32)) (0 : Int32) (show cells + 0 ≤ 0 by omega) (show slots + 0 ≤ 0 by omega) hf
    · rw [if_neg hc49] at hf
      refine i_icmpNo (pc' := 52) K X d4_49 rfl (flt hc49).1 ?_
      refine i_iconst (pc' := 53) (v := (1 : Int32)) K X d4_52 rfl rfl ?_
      refine i_goto (pc' := 57) K X d4_53 (by decide) (by decide) ?_
      exact w4_57 K sep X o0 i1 i2 i3 i4 i5 i6 (v1 - (1 : Int32)) (1 : Int32) (show cells + 0 ≤ 0 by omega) (show slots + 0 ≤ 0 by omega) hf
  · rw [if_neg hc29] at hf
    refine i_icmpNo (pc' := 32) K X d4_29 rfl (feq hc29).1 ?_
    refine i_iconst (pc' := 33) (v := (1 : Int32)) K X d4_32 rfl rfl ?_
    cases hf
    exact retB K (by simp) X (show cells ≤ 0 by omega) (show slots ≤ 0 by omega) d4_33
def f4_0 (A : AH) (o0 : Nat) (i1 : Int32) (i2 : Int32) (i3 : Int32) (i4 : Int32) (i5 : Int32) : Option (Int32 × AH) :=
  (h_alen A 0 o0).bind fun v1 =>
  if i1 < v1 then ((asI (h_aget A 0 o0 i1)).bind fun v3 =>
  if v3 = (f2_0 i1 i2 i3) then (f4_29 A o0 i1 i4 i5 (-1 : Int32) (f2_0 i1 i2 i3))
  else (some ((nar .boolean (0 : Int32)), A)))
  else (some ((nar .boolean (1 : Int32)), A))
set_option maxRecDepth 65536 in
set_option maxHeartbeats 4000000 in
theorem w4_0 (K : Cx p l e own_R4 s m meth c Z a0 tables_1 "com/example/thabiti/thabiti/core/HashingFreePinLaw" "ok" method_5_code 8 (some .boolean)) (sep : ∀ t, Sep Z (own_D t).2) (X : On p l e own_R4 s m args below meth c own_D Z n0 T A cells slots) (o0 : Nat) (i1 : Int32) (i2 : Int32) (i3 : Int32) (i4 : Int32) (i5 : Int32) (hc : cells + 0 ≤ 0) (hs : slots + 0 ≤ 0) {q : Int32 × AH} (hf : f4_0 A o0 i1 i2 i3 i4 i5 = some q) :
    Go p e below (T.setTop (mkF m 0 #[.val (.ref (n0 + o0)), .val (.int i1), .val (.int i2), .val (.int i3), .val (.int i4), .val (.int i5), .unset, .unset] [])) (Fini own_D Z n0 s own_R4 (some (.int q.1)) q.2) := by
  unfold f4_0 at hf
  refine i_iloadN (pc' := 1) K X d4_0 rfl rfl ?_
  refine i_aloadN (pc' := 2) K X d4_1 rfl rfl rfl ?_
  obtain ⟨v1, g1, hf⟩ := bs hf
  refine h_alen' (pc' := 3) K X (t := 0) (by decide) g1 d4_2 rfl ?_
  by_cases hc3 : i1 < v1
  · rw [if_pos hc3] at hf
    refine i_icmpYes (pc' := 8) K X d4_3 (tlt hc3).1 (by decide) (by decide) ?_
    refine i_iloadN (pc' := 9) K X d4_8 rfl rfl ?_
    refine i_iloadN (pc' := 10) K X d4_9 rfl rfl ?_
    refine i_iloadN (pc' := 11) K X d4_10 rfl rfl ?_
    refine calls (pc' := 14) (kc := cells) (ks := slots) (S' := [(.int (f2_0 i1 i2 i3))]) (st := []) K X (i1 := 5) rfl (i2 := 6) rfl (i3 := 3) rfl (i4 := 7) rfl (by decide) (rm2 (l := l) (n0 := n0) (K.2.2.2.2.2.2.2.2) A i1 i2 i3) pd_2 rfl d4_11 rfl rfl (by decide) (w := 0) (Nat.le_of_eq rfl) (by decide) (show cells + 0 ≤ 0 by omega) (show slots + 0 ≤ 0 by omega) rfl rfl rfl rfl (fun T2 X2 => ?_)
    refine i_istore (pc' := 16) (Ls' := #[.val (.ref (n0 + o0)), .val (.int i1), .val (.int i2), .val (.int i3), .val (.int i4), .val (.int i5), .val (.int (f2_0 i1 i2 i3)), .unset]) K X2 d4_14 rfl rfl ?_
    refine i_aloadN (pc' := 17) K X2 d4_16 rfl rfl rfl ?_
    refine i_iloadN (pc' := 18) K X2 d4_17 rfl rfl ?_
    obtain ⟨v3, g3, hf⟩ := bs hf
    refine ld0 (pc' := 19) K X2 g3 d4_18 rfl ?_
    refine i_iload (pc' := 21) K X2 d4_19 rfl rfl ?_
    by_cases hc21 : v3 = (f2_0 i1 i2 i3)
    · rw [if_pos hc21] at hf
      refine i_icmpYes (pc' := 26) K X2 d4_21 (teq hc21).1 (by decide) (by decide) ?_
      refine i_iload (pc' := 28) K X2 d4_26 rfl rfl ?_
      refine i_iconst (pc' := 29) (v := (-1 : Int32)) K X2 d4_28 rfl rfl ?_
      exact w4_29 K sep X2 o0 i1 i2 i3 i4 i5 (f2_0 i1 i2 i3) (-1 : Int32) (f2_0 i1 i2 i3) (show cells + 0 ≤ 0 by omega) (show slots + 0 ≤ 0 by omega) hf
    · rw [if_neg hc21] at hf
      refine i_icmpNo (pc' := 24) K X2 d4_21 rfl (feq hc21).1 ?_
      refine i_iconst (pc' := 25) (v := (0 : Int32)) K X2 d4_24 rfl rfl ?_
      cases hf
      exact retB K (by simp) X2 (show cells ≤ 0 by omega) (show slots ≤ 0 by omega) d4_25
  · rw [if_neg hc3] at hf
    refine i_icmpNo (pc' := 6) K X d4_3 rfl (flt hc3).1 ?_
    refine i_iconst (pc' := 7) (v := (1 : Int32)) K X d4_6 rfl rfl ?_
    cases hf
    exact retB K (by simp) X (show cells ≤ 0 by omega) (show slots ≤ 0 by omega) d4_7
theorem pn_4 : plainName "com/example/thabiti/thabiti/core/HashingFreePinLaw" = true := by first | (simp [plainName, overriddenIn]; done) | decide +kernel
theorem rm4 {l : Launch} {Z : State} {a0 : Array Value} {n0 : Nat} (hw : ∀ d ∈ tables_1, d.before a0 Z = true) (A : AH) (o0 : Nat) (i1 : Int32) (i2 : Int32) (i3 : Int32) (i4 : Int32) (i5 : Int32) {q : Int32 × AH} (hf : f4_0 A o0 i1 i2 i3 i4 i5 = some q) :
    Met l own_D Z n0 (⟨"com/example/thabiti/thabiti/core/HashingFreePinLaw", "ok", "([IIIIII)Z"⟩ : MethodName) method_5_code 8 (some .boolean) own_R4 [(.ref (n0 + o0)), (.int i1), (.int i2), (.int i3), (.int i4), (.int i5)] A (some (.int q.1)) q.2 :=
  met (W := tables_1) (a0 := a0) (own := "com/example/thabiti/thabiti/core/HashingFreePinLaw") (nm := "ok") (L0 := #[.val (.ref (n0 + o0)), .val (.int i1), .val (.int i2), .val (.int i3), .val (.int i4), .val (.int i5), .unset, .unset]) (plainFor_of_name pn_4) hw rfl rfl (fun m => by first | (simp [entryFrame, mkF, argsToLocals, Value.category]; done) | rfl) (fun p e s m below meth c T K X => w4_0 K (own_sep hw) X o0 i1 i2 i3 i4 i5 (show 0 + 0 ≤ 0 by decide) (show 0 + 0 ≤ 0 by decide) hf)
def f0_203 (A : AH)  : Option (Int32 × AH) :=
  some ((nar .boolean (0 : Int32)), A)
set_option maxRecDepth 65536 in
set_option maxHeartbeats 4000000 in
theorem w0_203 (K : Cx p l e room_1 s m meth c Z a0 tables_1 "com/example/thabiti/thabiti/core/HashingFreePinLaw" "law" code maxLocals ret) (sep : ∀ t, Sep Z (own_D t).2) (X : On p l e room_1 s m args below meth c own_D Z n0 T A cells slots) (i0 : Int32) (i1 : Int32) (i2 : Int32) (i3 : Int32) (i4 : Int32) (o5 : Nat) (i6 : Int32) (i7 : Int32) (i8 : Int32) (i9 : Int32) (i10 : Int32) (hc : cells + 0 ≤ 16) (hs : slots + 0 ≤ 128) {q : Int32 × AH} (hf : f0_203 A  = some q) :
    Go p e below (T.setTop (mkF m 203 #[.val (.int i0), .val (.int i1), .val (.int i2), .val (.int i3), .val (.int i4), .val (.ref (n0 + o5)), .val (.int i6), .val (.int i7), .val (.int i8), .val (.int i9), .val (.int i10), .unset, .unset] [])) (Fini own_D Z n0 s room_1 (some (.int q.1)) q.2) := by
  unfold f0_203 at hf
  refine i_iconst (pc' := 204) (v := (0 : Int32)) K X at_203 rfl rfl ?_
  cases hf
  exact retB K (by simp) X (show cells ≤ 16 by omega) (show slots ≤ 128 by omega) at_204
def f0_375 (A : AH) (s0 : Int32) : Option (Int32 × AH) :=
  some ((nar .boolean s0), A)
set_option maxRecDepth 65536 in
set_option maxHeartbeats 4000000 in
theorem w0_375 (K : Cx p l e room_1 s m meth c Z a0 tables_1 "com/example/thabiti/thabiti/core/HashingFreePinLaw" "law" code maxLocals ret) (sep : ∀ t, Sep Z (own_D t).2) (X : On p l e room_1 s m args below meth c own_D Z n0 T A cells slots) (i0 : Int32) (i1 : Int32) (i2 : Int32) (i3 : Int32) (i4 : Int32) (o5 : Nat) (i6 : Int32) (i7 : Int32) (i8 : Int32) (i9 : Int32) (i10 : Int32) (i11 : Int32) (i12 : Int32) (s0 : Int32) (hc : cells + 0 ≤ 16) (hs : slots + 0 ≤ 128) {q : Int32 × AH} (hf : f0_375 A s0 = some q) :
    Go p e below (T.setTop (mkF m 375 #[.val (.int i0), .val (.int i1), .val (.int i2), .val (.int i3), .val (.int i4), .val (.ref (n0 + o5)), .val (.int i6), .val (.int i7), .val (.int i8), .val (.int i9), .val (.int i10), .val (.int i11), .val (.int i12)] [(.int s0)])) (Fini own_D Z n0 s room_1 (some (.int q.1)) q.2) := by
  unfold f0_375 at hf
  cases hf
  exact retB K (by simp) X (show cells ≤ 16 by omega) (show slots ≤ 128 by omega) at_375
def f0_374 (A : AH)  : Option (Int32 × AH) :=
  f0_375 A (0 : Int32)
set_option maxRecDepth 65536 in
set_option maxHeartbeats 4000000 in
theorem w0_374 (K : Cx p l e room_1 s m meth c Z a0 tables_1 "com/example/thabiti/thabiti/core/HashingFreePinLaw" "law" code maxLocals ret) (sep : ∀ t, Sep Z (own_D t).2) (X : On p l e room_1 s m args below meth c own_D Z n0 T A cells slots) (i0 : Int32) (i1 : Int32) (i2 : Int32) (i3 : Int32) (i4 : Int32) (o5 : Nat) (i6 : Int32) (i7 : Int32) (i8 : Int32) (i9 : Int32) (i10 : Int32) (i11 : Int32) (i12 : Int32) (hc : cells + 0 ≤ 16) (hs : slots + 0 ≤ 128) {q : Int32 × AH} (hf : f0_374 A  = some q) :
    Go p e below (T.setTop (mkF m 374 #[.val (.int i0), .val (.int i1), .val (.int i2), .val (.int i3), .val (.int i4), .val (.ref (n0 + o5)), .val (.int i6), .val (.int i7), .val (.int i8), .val (.int i9), .val (.int i10), .val (.int i11), .val (.int i12)] [])) (Fini own_D Z n0 s room_1 (some (.int q.1)) q.2) := by
  unfold f0_374 at hf
  refine i_iconst (pc' := 375) (v := (0 : Int32)) K X at_374 rfl rfl ?_
  exact w0_375 K sep X i0 i1 i2 i3 i4 o5 i6 i7 i8 i9 i10 i11 i12 (0 : Int32) (show cells + 0 ≤ 16 by omega) (show slots + 0 ≤ 128 by omega) hf
def f0_370 (A : AH)  : Option (Int32 × AH) :=
  f0_375 A (1 : Int32)
set_option maxRecDepth 65536 in
set_option maxHeartbeats 4000000 in
theorem w0_370 (K : Cx p l e room_1 s m meth c Z a0 tables_1 "com/example/thabiti/thabiti/core/HashingFreePinLaw" "law" code maxLocals ret) (sep : ∀ t, Sep Z (own_D t).2) (X : On p l e room_1 s m args below meth c own_D Z n0 T A cells slots) (i0 : Int32) (i1 : Int32) (i2 : Int32) (i3 : Int32) (i4 : Int32) (o5 : Nat) (i6 : Int32) (i7 : Int32) (i8 : Int32) (i9 : Int32) (i10 : Int32) (i11 : Int32) (i12 : Int32) (hc : cells + 0 ≤ 16) (hs : slots + 0 ≤ 128) {q : Int32 × AH} (hf : f0_370 A  = some q) :
    Go p e below (T.setTop (mkF m 370 #[.val (.int i0), .val (.int i1), .val (.int i2), .val (.int i3), .val (.int i4), .val (.ref (n0 + o5)), .val (.int i6), .val (.int i7), .val (.int i8), .val (.int i9), .val (.int i10), .val (.int i11), .val (.int i12)] [])) (Fini own_D Z n0 s room_1 (some (.int q.1)) q.2) := by
  unfold f0_370 at hf
  refine i_iconst (pc' := 371) (v := (1 : Int32)) K X at_370 rfl rfl ?_
  refine i_goto (pc' := 375) K X at_371 (by decide) (by decide) ?_
  exact w0_375 K sep X i0 i1 i2 i3 i4 o5 i6 i7 i8 i9 i10 i11 i12 (1 : Int32) (show cells + 0 ≤ 16 by omega) (show slots + 0 ≤ 128 by omega) hf
def f0_334 (A : AH) (o5 : Nat) (i8 : Int32) (i9 : Int32) (i11 : Int32) (i12 : Int32) : Option (Int32 × AH) :=
  (f4_0 A o5 (6 : Int32) i9 i8 i11 i12).bind fun q1 =>
  if q1.1 = (0 : Int32) then (f0_374 q1.2 )
  else ((f4_0 q1.2 o5 (7 : Int32) i9 i8 i11 i12).bind fun q2 =>
  if q2.1 = (0 : Int32) then (f0_374 q2.2 )
  else (f0_370 q2.2 ))
set_option maxRecDepth 65536 in
set_option maxHeartbeats 4000000 in
theorem w0_334 (K : Cx p l e room_1 s m meth c Z a0 tables_1 "com/example/thabiti/thabiti/core/HashingFreePinLaw" "law" code maxLocals ret) (sep : ∀ t, Sep Z (own_D t).2) (X : On p l e room_1 s m args below meth c own_D Z n0 T A cells slots) (i0 : Int32) (i1 : Int32) (i2 : Int32) (i3 : Int32) (i4 : Int32) (o5 : Nat) (i6 : Int32) (i7 : Int32) (i8 : Int32) (i9 : Int32) (i10 : Int32) (i11 : Int32) (i12 : Int32) (hc : cells + 0 ≤ 16) (hs : slots + 0 ≤ 128) {q : Int32 × AH} (hf : f0_334 A o5 i8 i9 i11 i12 = some q) :
    Go p e below (T.setTop (mkF m 334 #[.val (.int i0), .val (.int i1), .val (.int i2), .val (.int i3), .val (.int i4), .val (.ref (n0 + o5)), .val (.int i6), .val (.int i7), .val (.int i8), .val (.int i9), .val (.int i10), .val (.int i11), .val (.int i12)] [])) (Fini own_D Z n0 s room_1 (some (.int q.1)) q.2) := by
  unfold f0_334 at hf
  refine i_aload (pc' := 336) K X at_334 rfl rfl rfl ?_
  refine i_bipush (pc' := 338) (v := (6 : Int32)) K X at_336 rfl rfl ?_
  refine i_iload (pc' := 340) K X at_338 rfl rfl ?_
  refine i_iload (pc' := 342) K X at_340 rfl rfl ?_
  refine i_iload (pc' := 344) K X at_342 rfl rfl ?_
  refine i_iload (pc' := 346) K X at_344 rfl rfl ?_
  obtain ⟨q1, g1, hf⟩ := bs hf
  refine calls (pc' := 349) (kc := cells) (ks := slots) (S' := [(.int q1.1)]) (st := []) K X (i1 := 12) rfl (i2 := 13) rfl (i3 := 3) rfl (i4 := 14) rfl (by decide) (rm4 (l := l) (n0 := n0) (K.2.2.2.2.2.2.2.2) A o5 (6 : Int32) i9 i8 i11 i12 g1) pd_4 rfl at_346 rfl rfl (by decide) (w := 0) (Nat.le_of_eq rfl) (by decide) (show cells + 0 ≤ 16 by omega) (show slots + 0 ≤ 128 by omega) rfl rfl rfl rfl (fun T1 X1 => ?_)
  by_cases hc349 : q1.1 = (0 : Int32)
  · rw [if_pos hc349] at hf
    refine i_ifYes (pc' := 374) K X1 at_349 (teq hc349).1 (by decide) (by decide) ?_
    exact w0_374 K sep X1 i0 i1 i2 i3 i4 o5 i6 i7 i8 i9 i10 i11 i12 (show cells + 0 ≤ 16 by omega) (show slots + 0 ≤ 128 by omega) hf
  · rw [if_neg hc349] at hf
    refine i_ifNo (pc' := 352) K X1 at_349 rfl (feq hc349).1 ?_
    refine i_aload (pc' := 354) K X1 at_352 rfl rfl rfl ?_
    refine i_bipush (pc' := 356) (v := (7 : Int32)) K X1 at_354 rfl rfl ?_
    refine i_iload (pc' := 358) K X1 at_356 rfl rfl ?_
    refine i_iload (pc' := 360) K X1 at_358 rfl rfl ?_
    refine i_iload (pc' := 362) K X1 at_360 rfl rfl ?_
    refine i_iload (pc' := 364) K X1 at_362 rfl rfl ?_
    obtain ⟨q2, g2, hf⟩ := bs hf
    refine calls (pc' := 367) (kc := cells) (ks := slots) (S' := [(.int q2.1)]) (st := []) K X1 (i1 := 12) rfl (i2 := 13) rfl (i3 := 3) rfl (i4 := 14) rfl (by decide) (rm4 (l := l) (n0 := n0) (K.2.2.2.2.2.2.2.2) q1.2 o5 (7 : Int32) i9 i8 i11 i12 g2) pd_4 rfl at_364 rfl rfl (by decide) (w := 0) (Nat.le_of_eq rfl) (by decide) (show cells + 0 ≤ 16 by omega) (show slots + 0 ≤ 128 by omega) rfl rfl rfl rfl (fun T2 X2 => ?_)
    by_cases hc367 : q2.1 = (0 : Int32)
    · rw [if_pos hc367] at hf
      refine i_ifYes (pc' := 374) K X2 at_367 (teq hc367).1 (by decide) (by decide) ?_
      exact w0_374 K sep X2 i0 i1 i2 i3 i4 o5 i6 i7 i8 i9 i10 i11 i12 (show cells + 0 ≤ 16 by omega) (show slots + 0 ≤ 128 by omega) hf
    · rw [if_neg hc367] at hf
      refine i_ifNo (pc' := 370) K X2 at_367 rfl (feq hc367).1 ?_
      exact w0_370 K sep X2 i0 i1 i2 i3 i4 o5 i6 i7 i8 i9 i10 i11 i12 (show cells + 0 ≤ 16 by omega) (show slots + 0 ≤ 128 by omega) hf
def f0_300 (A : AH) (o5 : Nat) (i8 : Int32) (i9 : Int32) (i11 : Int32) (i12 : Int32) : Option (Int32 × AH) :=
  (f4_0 A o5 (4 : Int32) i9 i8 i11 i12).bind fun q1 =>
  if q1.1 = (0 : Int32) then (f0_374 q1.2 )
  else ((f4_0 q1.2 o5 (5 : Int32) i9 i8 i11 i12).bind fun q2 =>
  if q2.1 = (0 : Int32) then (f0_374 q2.2 )
  else (f0_334 q2.2 o5 i8 i9 i11 i12))
set_option maxRecDepth 65536 in
set_option maxHeartbeats 4000000 in
theorem w0_300 (K : Cx p l e room_1 s m meth c Z a0 tables_1 "com/example/thabiti/thabiti/core/HashingFreePinLaw" "law" code maxLocals ret) (sep : ∀ t, Sep Z (own_D t).2) (X : On p l e room_1 s m args below meth c own_D Z n0 T A cells slots) (i0 : Int32) (i1 : Int32) (i2 : Int32) (i3 : Int32) (i4 : Int32) (o5 : Nat) (i6 : Int32) (i7 : Int32) (i8 : Int32) (i9 : Int32) (i10 : Int32) (i11 : Int32) (i12 : Int32) (hc : cells + 0 ≤ 16) (hs : slots + 0 ≤ 128) {q : Int32 × AH} (hf : f0_300 A o5 i8 i9 i11 i12 = some q) :
    Go p e below (T.setTop (mkF m 300 #[.val (.int i0), .val (.int i1), .val (.int i2), .val (.int i3), .val (.int i4), .val (.ref (n0 + o5)), .val (.int i6), .val (.int i7), .val (.int i8), .val (.int i9), .val (.int i10), .val (.int i11), .val (.int i12)] [])) (Fini own_D Z n0 s room_1 (some (.int q.1)) q.2) := by
  unfold f0_300 at hf
  refine i_aload (pc' := 302) K X at_300 rfl rfl rfl ?_
  refine i_iconst (pc' := 303) (v := (4 : Int32)) K X at_302 rfl rfl ?_
  refine i_iload (pc' := 305) K X at_303 rfl rfl ?_
  refine i_iload (pc' := 307) K X at_305 rfl rfl ?_
  refine i_iload (pc' := 309) K X at_307 rfl rfl ?_
  refine i_iload (pc' := 311) K X at_309 rfl rfl ?_
  obtain ⟨q1, g1, hf⟩ := bs hf
  refine calls (pc' := 314) (kc := cells) (ks := slots) (S' := [(.int q1.1)]) (st := []) K X (i1 := 12) rfl (i2 := 13) rfl (i3 := 3) rfl (i4 := 14) rfl (by decide) (rm4 (l := l) (n0 := n0) (K.2.2.2.2.2.2.2.2) A o5 (4 : Int32) i9 i8 i11 i12 g1) pd_4 rfl at_311 rfl rfl (by decide) (w := 0) (Nat.le_of_eq rfl) (by decide) (show cells + 0 ≤ 16 by omega) (show slots + 0 ≤ 128 by omega) rfl rfl rfl rfl (fun T1 X1 => ?_)
  by_cases hc314 : q1.1 = (0 : Int32)
  · rw [if_pos hc314] at hf
    refine i_ifYes (pc' := 374) K X1 at_314 (teq hc314).1 (by decide) (by decide) ?_
    exact w0_374 K sep X1 i0 i1 i2 i3 i4 o5 i6 i7 i8 i9 i10 i11 i12 (show cells + 0 ≤ 16 by omega) (show slots + 0 ≤ 128 by omega) hf
  · rw [if_neg hc314] at hf
    refine i_ifNo (pc' := 317) K X1 at_314 rfl (feq hc314).1 ?_
    refine i_aload (pc' := 319) K X1 at_317 rfl rfl rfl ?_
    refine i_iconst (pc' := 320) (v := (5 : Int32)) K X1 at_319 rfl rfl ?_
    refine i_iload (pc' := 322) K X1 at_320 rfl rfl ?_
    refine i_iload (pc' := 324) K X1 at_322 rfl rfl ?_
    refine i_iload (pc' := 326) K X1 at_324 rfl rfl ?_
    refine i_iload (pc' := 328) K X1 at_326 rfl rfl ?_
    obtain ⟨q2, g2, hf⟩ := bs hf
    refine calls (pc' := 331) (kc := cells) (ks := slots) (S' := [(.int q2.1)]) (st := []) K X1 (i1 := 12) rfl (i2 := 13) rfl (i3 := 3) rfl (i4 := 14) rfl (by decide) (rm4 (l := l) (n0 := n0) (K.2.2.2.2.2.2.2.2) q1.2 o5 (5 : Int32) i9 i8 i11 i12 g2) pd_4 rfl at_328 rfl rfl (by decide) (w := 0) (Nat.le_of_eq rfl) (by decide) (show cells + 0 ≤ 16 by omega) (show slots + 0 ≤ 128 by omega) rfl rfl rfl rfl (fun T2 X2 => ?_)
    by_cases hc331 : q2.1 = (0 : Int32)
    · rw [if_pos hc331] at hf
      refine i_ifYes (pc' := 374) K X2 at_331 (teq hc331).1 (by decide) (by decide) ?_
      exact w0_374 K sep X2 i0 i1 i2 i3 i4 o5 i6 i7 i8 i9 i10 i11 i12 (show cells + 0 ≤ 16 by omega) (show slots + 0 ≤ 128 by omega) hf
    · rw [if_neg hc331] at hf
      refine i_ifNo (pc' := 334) K X2 at_331 rfl (feq hc331).1 ?_
      exact w0_334 K sep X2 i0 i1 i2 i3 i4 o5 i6 i7 i8 i9 i10 i11 i12 (show cells + 0 ≤ 16 by omega) (show slots + 0 ≤ 128 by omega) hf
def f0_266 (A : AH) (o5 : Nat) (i8 : Int32) (i9 : Int32) (i11 : Int32) (i12 : Int32) : Option (Int32 × AH) :=
  (f4_0 A o5 (2 : Int32) i9 i8 i11 i12).bind fun q1 =>
  if q1.1 = (0 : Int32) then (f0_374 q1.2 )
  else ((f4_0 q1.2 o5 (3 : Int32) i9 i8 i11 i12).bind fun q2 =>
  if q2.1 = (0 : Int32) then (f0_374 q2.2 )
  else (f0_300 q2.2 o5 i8 i9 i11 i12))
set_option maxRecDepth 65536 in
set_option maxHeartbeats 4000000 in
theorem w0_266 (K : Cx p l e room_1 s m meth c Z a0 tables_1 "com/example/thabiti/thabiti/core/HashingFreePinLaw" "law" code maxLocals ret) (sep : ∀ t, Sep Z (own_D t).2) (X : On p l e room_1 s m args below meth c own_D Z n0 T A cells slots) (i0 : Int32) (i1 : Int32) (i2 : Int32) (i3 : Int32) (i4 : Int32) (o5 : Nat) (i6 : Int32) (i7 : Int32) (i8 : Int32) (i9 : Int32) (i10 : Int32) (i11 : Int32) (i12 : Int32) (hc : cells + 0 ≤ 16) (hs : slots + 0 ≤ 128) {q : Int32 × AH} (hf : f0_266 A o5 i8 i9 i11 i12 = some q) :
    Go p e below (T.setTop (mkF m 266 #[.val (.int i0), .val (.int i1), .val (.int i2), .val (.int i3), .val (.int i4), .val (.ref (n0 + o5)), .val (.int i6), .val (.int i7), .val (.int i8), .val (.int i9), .val (.int i10), .val (.int i11), .val (.int i12)] [])) (Fini own_D Z n0 s room_1 (some (.int q.1)) q.2) := by
  unfold f0_266 at hf
  refine i_aload (pc' := 268) K X at_266 rfl rfl rfl ?_
  refine i_iconst (pc' := 269) (v := (2 : Int32)) K X at_268 rfl rfl ?_
  refine i_iload (pc' := 271) K X at_269 rfl rfl ?_
  refine i_iload (pc' := 273) K X at_271 rfl rfl ?_
  refine i_iload (pc' := 275) K X at_273 rfl rfl ?_
  refine i_iload (pc' := 277) K X at_275 rfl rfl ?_
  obtain ⟨q1, g1, hf⟩ := bs hf
  refine calls (pc' := 280) (kc := cells) (ks := slots) (S' := [(.int q1.1)]) (st := []) K X (i1 := 12) rfl (i2 := 13) rfl (i3 := 3) rfl (i4 := 14) rfl (by decide) (rm4 (l := l) (n0 := n0) (K.2.2.2.2.2.2.2.2) A o5 (2 : Int32) i9 i8 i11 i12 g1) pd_4 rfl at_277 rfl rfl (by decide) (w := 0) (Nat.le_of_eq rfl) (by decide) (show cells + 0 ≤ 16 by omega) (show slots + 0 ≤ 128 by omega) rfl rfl rfl rfl (fun T1 X1 => ?_)
  by_cases hc280 : q1.1 = (0 : Int32)
  · rw [if_pos hc280] at hf
    refine i_ifYes (pc' := 374) K X1 at_280 (teq hc280).1 (by decide) (by decide) ?_
    exact w0_374 K sep X1 i0 i1 i2 i3 i4 o5 i6 i7 i8 i9 i10 i11 i12 (show cells + 0 ≤ 16 by omega) (show slots + 0 ≤ 128 by omega) hf
  · rw [if_neg hc280] at hf
    refine i_ifNo (pc' := 283) K X1 at_280 rfl (feq hc280).1 ?_
    refine i_aload (pc' := 285) K X1 at_283 rfl rfl rfl ?_
    refine i_iconst (pc' := 286) (v := (3 : Int32)) K X1 at_285 rfl rfl ?_
    refine i_iload (pc' := 288) K X1 at_286 rfl rfl ?_
    refine i_iload (pc' := 290) K X1 at_288 rfl rfl ?_
    refine i_iload (pc' := 292) K X1 at_290 rfl rfl ?_
    refine i_iload (pc' := 294) K X1 at_292 rfl rfl ?_
    obtain ⟨q2, g2, hf⟩ := bs hf
    refine calls (pc' := 297) (kc := cells) (ks := slots) (S' := [(.int q2.1)]) (st := []) K X1 (i1 := 12) rfl (i2 := 13) rfl (i3 := 3) rfl (i4 := 14) rfl (by decide) (rm4 (l := l) (n0 := n0) (K.2.2.2.2.2.2.2.2) q1.2 o5 (3 : Int32) i9 i8 i11 i12 g2) pd_4 rfl at_294 rfl rfl (by decide) (w := 0) (Nat.le_of_eq rfl) (by decide) (show cells + 0 ≤ 16 by omega) (show slots + 0 ≤ 128 by omega) rfl rfl rfl rfl (fun T2 X2 => ?_)
    by_cases hc297 : q2.1 = (0 : Int32)
    · rw [if_pos hc297] at hf
      refine i_ifYes (pc' := 374) K X2 at_297 (teq hc297).1 (by decide) (by decide) ?_
      exact w0_374 K sep X2 i0 i1 i2 i3 i4 o5 i6 i7 i8 i9 i10 i11 i12 (show cells + 0 ≤ 16 by omega) (show slots + 0 ≤ 128 by omega) hf
    · rw [if_neg hc297] at hf
      refine i_ifNo (pc' := 300) K X2 at_297 rfl (feq hc297).1 ?_
      exact w0_300 K sep X2 i0 i1 i2 i3 i4 o5 i6 i7 i8 i9 i10 i11 i12 (show cells + 0 ≤ 16 by omega) (show slots + 0 ≤ 128 by omega) hf
def f0_232 (A : AH) (o5 : Nat) (i8 : Int32) (i9 : Int32) (i11 : Int32) (i12 : Int32) : Option (Int32 × AH) :=
  (f4_0 A o5 (0 : Int32) i9 i8 i11 i12).bind fun q1 =>
  if q1.1 = (0 : Int32) then (f0_374 q1.2 )
  else ((f4_0 q1.2 o5 (1 : Int32) i9 i8 i11 i12).bind fun q2 =>
  if q2.1 = (0 : Int32) then (f0_374 q2.2 )
  else (f0_266 q2.2 o5 i8 i9 i11 i12))
set_option maxRecDepth 65536 in
set_option maxHeartbeats 4000000 in
theorem w0_232 (K : Cx p l e room_1 s m meth c Z a0 tables_1 "com/example/thabiti/thabiti/core/HashingFreePinLaw" "law" code maxLocals ret) (sep : ∀ t, Sep Z (own_D t).2) (X : On p l e room_1 s m args below meth c own_D Z n0 T A cells slots) (i0 : Int32) (i1 : Int32) (i2 : Int32) (i3 : Int32) (i4 : Int32) (o5 : Nat) (i6 : Int32) (i7 : Int32) (i8 : Int32) (i9 : Int32) (i10 : Int32) (i11 : Int32) (i12 : Int32) (hc : cells + 0 ≤ 16) (hs : slots + 0 ≤ 128) {q : Int32 × AH} (hf : f0_232 A o5 i8 i9 i11 i12 = some q) :
    Go p e below (T.setTop (mkF m 232 #[.val (.int i0), .val (.int i1), .val (.int i2), .val (.int i3), .val (.int i4), .val (.ref (n0 + o5)), .val (.int i6), .val (.int i7), .val (.int i8), .val (.int i9), .val (.int i10), .val (.int i11), .val (.int i12)] [])) (Fini own_D Z n0 s room_1 (some (.int q.1)) q.2) := by
  unfold f0_232 at hf
  refine i_aload (pc' := 234) K X at_232 rfl rfl rfl ?_
  refine i_iconst (pc' := 235) (v := (0 : Int32)) K X at_234 rfl rfl ?_
  refine i_iload (pc' := 237) K X at_235 rfl rfl ?_
  refine i_iload (pc' := 239) K X at_237 rfl rfl ?_
  refine i_iload (pc' := 241) K X at_239 rfl rfl ?_
  refine i_iload (pc' := 243) K X at_241 rfl rfl ?_
  obtain ⟨q1, g1, hf⟩ := bs hf
  refine calls (pc' := 246) (kc := cells) (ks := slots) (S' := [(.int q1.1)]) (st := []) K X (i1 := 12) rfl (i2 := 13) rfl (i3 := 3) rfl (i4 := 14) rfl (by decide) (rm4 (l := l) (n0 := n0) (K.2.2.2.2.2.2.2.2) A o5 (0 : Int32) i9 i8 i11 i12 g1) pd_4 rfl at_243 rfl rfl (by decide) (w := 0) (Nat.le_of_eq rfl) (by decide) (show cells + 0 ≤ 16 by omega) (show slots + 0 ≤ 128 by omega) rfl rfl rfl rfl (fun T1 X1 => ?_)
  by_cases hc246 : q1.1 = (0 : Int32)
  · rw [if_pos hc246] at hf
    refine i_ifYes (pc' := 374) K X1 at_246 (teq hc246).1 (by decide) (by decide) ?_
    exact w0_374 K sep X1 i0 i1 i2 i3 i4 o5 i6 i7 i8 i9 i10 i11 i12 (show cells + 0 ≤ 16 by omega) (show slots + 0 ≤ 128 by omega) hf
  · rw [if_neg hc246] at hf
    refine i_ifNo (pc' := 249) K X1 at_246 rfl (feq hc246).1 ?_
    refine i_aload (pc' := 251) K X1 at_249 rfl rfl rfl ?_
    refine i_iconst (pc' := 252) (v := (1 : Int32)) K X1 at_251 rfl rfl ?_
    refine i_iload (pc' := 254) K X1 at_252 rfl rfl ?_
    refine i_iload (pc' := 256) K X1 at_254 rfl rfl ?_
    refine i_iload (pc' := 258) K X1 at_256 rfl rfl ?_
    refine i_iload (pc' := 260) K X1 at_258 rfl rfl ?_
    obtain ⟨q2, g2, hf⟩ := bs hf
    refine calls (pc' := 263) (kc := cells) (ks := slots) (S' := [(.int q2.1)]) (st := []) K X1 (i1 := 12) rfl (i2 := 13) rfl (i3 := 3) rfl (i4 := 14) rfl (by decide) (rm4 (l := l) (n0 := n0) (K.2.2.2.2.2.2.2.2) q1.2 o5 (1 : Int32) i9 i8 i11 i12 g2) pd_4 rfl at_260 rfl rfl (by decide) (w := 0) (Nat.le_of_eq rfl) (by decide) (show cells + 0 ≤ 16 by omega) (show slots + 0 ≤ 128 by omega) rfl rfl rfl rfl (fun T2 X2 => ?_)
    by_cases hc263 : q2.1 = (0 : Int32)
    · rw [if_pos hc263] at hf
      refine i_ifYes (pc' := 374) K X2 at_263 (teq hc263).1 (by decide) (by decide) ?_
      exact w0_374 K sep X2 i0 i1 i2 i3 i4 o5 i6 i7 i8 i9 i10 i11 i12 (show cells + 0 ≤ 16 by omega) (show slots + 0 ≤ 128 by omega) hf
    · rw [if_neg hc263] at hf
      refine i_ifNo (pc' := 266) K X2 at_263 rfl (feq hc263).1 ?_
      exact w0_266 K sep X2 i0 i1 i2 i3 i4 o5 i6 i7 i8 i9 i10 i11 i12 (show cells + 0 ≤ 16 by omega) (show slots + 0 ≤ 128 by omega) hf
def f0_200 (A : AH) (i3 : Int32) (o5 : Nat) (i7 : Int32) (i8 : Int32) (i9 : Int32) (i10 : Int32) (s0 : Int32) (s1 : Int32) : Option (Int32 × AH) :=
  if s1 < s0 then ((asI (h_aget A 0 o5 i10)).bind fun v1 =>
  if v1 = (-1 : Int32) then (f0_232 A o5 i8 i9 (i3 &&& i7) ((i10 - (i3 &&& i7)) &&& i7))
  else (some ((nar .boolean (0 : Int32)), A)))
  else (f0_203 A )
set_option maxRecDepth 65536 in
set_option maxHeartbeats 4000000 in
theorem w0_200 (K : Cx p l e room_1 s m meth c Z a0 tables_1 "com/example/thabiti/thabiti/core/HashingFreePinLaw" "law" code maxLocals ret) (sep : ∀ t, Sep Z (own_D t).2) (X : On p l e room_1 s m args below meth c own_D Z n0 T A cells slots) (i0 : Int32) (i1 : Int32) (i2 : Int32) (i3 : Int32) (i4 : Int32) (o5 : Nat) (i6 : Int32) (i7 : Int32) (i8 : Int32) (i9 : Int32) (i10 : Int32) (s0 : Int32) (s1 : Int32) (hc : cells + 0 ≤ 16) (hs : slots + 0 ≤ 128) {q : Int32 × AH} (hf : f0_200 A i3 o5 i7 i8 i9 i10 s0 s1 = some q) :
    Go p e below (T.setTop (mkF m 200 #[.val (.int i0), .val (.int i1), .val (.int i2), .val (.int i3), .val (.int i4), .val (.ref (n0 + o5)), .val (.int i6), .val (.int i7), .val (.int i8), .val (.int i9), .val (.int i10), .unset, .unset] [(.int s0), (.int s1)])) (Fini own_D Z n0 s room_1 (some (.int q.1)) q.2) := by
  unfold f0_200 at hf
  by_cases hc200 : s1 < s0
  · rw [if_pos hc200] at hf
    refine i_icmpYes (pc' := 205) K X at_200 (tlt hc200).1 (by decide) (by decide) ?_
    refine i_aload (pc' := 207) K X at_205 rfl rfl rfl ?_
    refine i_iload (pc' := 209) K X at_207 rfl rfl ?_
    obtain ⟨v1, g1, hf⟩ := bs hf
    refine ld0 (pc' := 210) K X g1 at_209 rfl ?_
    refine i_iconst (pc' := 211) (v := (-1 : Int32)) K X at_210 rfl rfl ?_
    by_cases hc211 : v1 = (-1 : Int32)
    · rw [if_pos hc211] at hf
      refine i_icmpYes (pc' := 216) K X at_211 (teq hc211).1 (by decide) (by decide) ?_
      refine i_iloadN (pc' := 217) K X at_216 rfl rfl ?_
      refine i_iload (pc' := 219) K X at_217 rfl rfl ?_
      refine i_iand (pc' := 220) K X at_219 rfl ?_
      refine i_istore (pc' := 222) (Ls' := #[.val (.int i0), .val (.int i1), .val (.int i2), .val (.int i3), .val (.int i4), .val (.ref (n0 + o5)), .val (.int i6), .val (.int i7), .val (.int i8), .val (.int i9), .val (.int i10), .val (.int (i3 &&& i7)), .unset]) K X at_220 rfl rfl ?_
      refine i_iload (pc' := 224) K X at_222 rfl rfl ?_
      refine i_iload (pc' := 226) K X at_224 rfl rfl ?_
      refine i_isub (pc' := 227) K X at_226 rfl ?_
      refine i_iload (pc' := 229) K X at_227 rfl rfl ?_
      refine i_iand (pc' := 230) K X at_229 rfl ?_
      refine i_istore (pc' := 232) (Ls' := #[.val (.int i0), .val (.int i1), .val (.int i2), .val (.int i3), .val (.int i4), .val (.ref (n0 + o5)), .val (.int i6), .val (.int i7), .val (.int i8), .val (.int i9), .val (.int i10), .val (.int (i3 &&& i7)), .val (.int ((i10 - (i3 &&& i7)) &&& i7))]) K X at_230 rfl rfl ?_
      exact w0_232 K sep X i0 i1 i2 i3 i4 o5 i6 i7 i8 i9 i10 (i3 &&& i7) ((i10 - (i3 &&& i7)) &&& i7) (show cells + 0 ≤ 16 by omega) (show slots + 0 ≤ 128 by omega) hf
    · rw [if_neg hc211] at hf
      refine i_icmpNo (pc' := 214) K X at_211 rfl (feq hc211).1 ?_
      refine i_iconst (pc' := 215) (v := (0 : Int32)) K X at_214 rfl rfl ?_
      cases hf
      exact retB K (by simp) X (show cells ≤ 16 by omega) (show slots ≤ 128 by omega) at_215
  · rw [if_neg hc200] at hf
    refine i_icmpNo (pc' := 203) K X at_200 rfl (flt hc200).1 ?_
    exact w0_203 K sep X i0 i1 i2 i3 i4 o5 i6 i7 i8 i9 i10 (show cells + 0 ≤ 16 by omega) (show slots + 0 ≤ 128 by omega) hf
def f0_165 (A : AH) (i3 : Int32) (o5 : Nat) (i6 : Int32) (i7 : Int32) (i8 : Int32) (i9 : Int32) (s0 : Int32) (r1 : Nat) : Option (Int32 × AH) :=
  (f1_0 A r1 s0 i9 i8).bind fun A1 =>
  (f1_0 A1 o5 (7 : Int32) i9 i8).bind fun A2 =>
  (f3_0 A2 o5 i3).bind fun q3 =>
  if q3.1 < (0 : Int32) then (f0_203 q3.2 )
  else (f0_200 q3.2 i3 o5 i7 i8 i9 q3.1 i6 q3.1)
set_option maxRecDepth 65536 in
set_option maxHeartbeats 4000000 in
theorem w0_165 (K : Cx p l e room_1 s m meth c Z a0 tables_1 "com/example/thabiti/thabiti/core/HashingFreePinLaw" "law" code maxLocals ret) (sep : ∀ t, Sep Z (own_D t).2) (X : On p l e room_1 s m args below meth c own_D Z n0 T A cells slots) (i0 : Int32) (i1 : Int32) (i2 : Int32) (i3 : Int32) (i4 : Int32) (o5 : Nat) (i6 : Int32) (i7 : Int32) (i8 : Int32) (i9 : Int32) (s0 : Int32) (r1 : Nat) (hc : cells + 0 ≤ 16) (hs : slots + 0 ≤ 128) {q : Int32 × AH} (hf : f0_165 A i3 o5 i6 i7 i8 i9 s0 r1 = some q) :
    Go p e below (T.setTop (mkF m 165 #[.val (.int i0), .val (.int i1), .val (.int i2), .val (.int i3), .val (.int i4), .val (.ref (n0 + o5)), .val (.int i6), .val (.int i7), .val (.int i8), .val (.int i9), .unset, .unset, .unset] [(.int s0), (.ref (n0 + r1))])) (Fini own_D Z n0 s room_1 (some (.int q.1)) q.2) := by
  unfold f0_165 at hf
  refine i_iload (pc' := 167) K X at_165 rfl rfl ?_
  refine i_iload (pc' := 169) K X at_167 rfl rfl ?_
  obtain ⟨A1, g1, hf⟩ := bs hf
  refine calls (pc' := 172) (kc := cells) (ks := slots) (S' := []) (st := []) K X (i1 := 1) rfl (i2 := 2) rfl (i3 := 3) rfl (i4 := 4) rfl (by decide) (rm1 (l := l) (n0 := n0) (K.2.2.2.2.2.2.2.2) A r1 s0 i9 i8 g1) pd_1 rfl at_169 rfl rfl (by decide) (w := 0) (Nat.le_of_eq rfl) (by decide) (show cells + 0 ≤ 16 by omega) (show slots + 0 ≤ 128 by omega) rfl rfl rfl rfl (fun T1 X1 => ?_)
  refine i_aload (pc' := 174) K X1 at_172 rfl rfl rfl ?_
  refine i_bipush (pc' := 176) (v := (7 : Int32)) K X1 at_174 rfl rfl ?_
  refine i_iload (pc' := 178) K X1 at_176 rfl rfl ?_
  refine i_iload (pc' := 180) K X1 at_178 rfl rfl ?_
  obtain ⟨A2, g2, hf⟩ := bs hf
  refine calls (pc' := 183) (kc := cells) (ks := slots) (S' := []) (st := []) K X1 (i1 := 1) rfl (i2 := 2) rfl (i3 := 3) rfl (i4 := 4) rfl (by decide) (rm1 (l := l) (n0 := n0) (K.2.2.2.2.2.2.2.2) A1 o5 (7 : Int32) i9 i8 g2) pd_1 rfl at_180 rfl rfl (by decide) (w := 0) (Nat.le_of_eq rfl) (by decide) (show cells + 0 ≤ 16 by omega) (show slots + 0 ≤ 128 by omega) rfl rfl rfl rfl (fun T2 X2 => ?_)
  refine i_aload (pc' := 185) K X2 at_183 rfl rfl rfl ?_
  refine i_iloadN (pc' := 186) K X2 at_185 rfl rfl ?_
  obtain ⟨q3, g3, hf⟩ := bs hf
  refine calls (pc' := 189) (kc := cells) (ks := slots) (S' := [(.int q3.1)]) (st := []) K X2 (i1 := 8) rfl (i2 := 9) rfl (i3 := 10) rfl (i4 := 11) rfl (by decide) (rm3 (l := l) (n0 := n0) (K.2.2.2.2.2.2.2.2) A2 o5 i3 g3) pd_3 rfl at_186 rfl rfl (by decide) (w := 0) (Nat.le_of_eq rfl) (by decide) (show cells + 0 ≤ 16 by omega) (show slots + 0 ≤ 128 by omega) rfl rfl rfl rfl (fun T3 X3 => ?_)
  refine i_istore (pc' := 191) (Ls' := #[.val (.int i0), .val (.int i1), .val (.int i2), .val (.int i3), .val (.int i4), .val (.ref (n0 + o5)), .val (.int i6), .val (.int i7), .val (.int i8), .val (.int i9), .val (.int q3.1), .unset, .unset]) K X3 at_189 rfl rfl ?_
  refine i_iload (pc' := 193) K X3 at_191 rfl rfl ?_
  by_cases hc193 : q3.1 < (0 : Int32)
  · rw [if_pos hc193] at hf
    refine i_ifYes (pc' := 203) K X3 at_193 (tlt hc193).1 (by decide) (by decide) ?_
    exact w0_203 K sep X3 i0 i1 i2 i3 i4 o5 i6 i7 i8 i9 q3.1 (show cells + 0 ≤ 16 by omega) (show slots + 0 ≤ 128 by omega) hf
  · rw [if_neg hc193] at hf
    refine i_ifNo (pc' := 196) K X3 at_193 rfl (flt hc193).1 ?_
    refine i_iload (pc' := 198) K X3 at_196 rfl rfl ?_
    refine i_iload (pc' := 200) K X3 at_198 rfl rfl ?_
    exact w0_200 K sep X3 i0 i1 i2 i3 i4 o5 i6 i7 i8 i9 q3.1 i6 q3.1 (show cells + 0 ≤ 16 by omega) (show slots + 0 ≤ 128 by omega) hf
def f0_133 (A : AH) (i3 : Int32) (o5 : Nat) (i6 : Int32) (i7 : Int32) (i8 : Int32) (i9 : Int32) (r0 : Nat) : Option (Int32 × AH) :=
  (f1_0 A r0 (3 : Int32) i9 i8).bind fun A1 =>
  (f1_0 A1 o5 (4 : Int32) i9 i8).bind fun A2 =>
  (f1_0 A2 o5 (5 : Int32) i9 i8).bind fun A3 =>
  f0_165 A3 i3 o5 i6 i7 i8 i9 (6 : Int32) o5
set_option maxRecDepth 65536 in
set_option maxHeartbeats 4000000 in
theorem w0_133 (K : Cx p l e room_1 s m meth c Z a0 tables_1 "com/example/thabiti/thabiti/core/HashingFreePinLaw" "law" code maxLocals ret) (sep : ∀ t, Sep Z (own_D t).2) (X : On p l e room_1 s m args below meth c own_D Z n0 T A cells slots) (i0 : Int32) (i1 : Int32) (i2 : Int32) (i3 : Int32) (i4 : Int32) (o5 : Nat) (i6 : Int32) (i7 : Int32) (i8 : Int32) (i9 : Int32) (r0 : Nat) (hc : cells + 0 ≤ 16) (hs : slots + 0 ≤ 128) {q : Int32 × AH} (hf : f0_133 A i3 o5 i6 i7 i8 i9 r0 = some q) :
    Go p e below (T.setTop (mkF m 133 #[.val (.int i0), .val (.int i1), .val (.int i2), .val (.int i3), .val (.int i4), .val (.ref (n0 + o5)), .val (.int i6), .val (.int i7), .val (.int i8), .val (.int i9), .unset, .unset, .unset] [(.ref (n0 + r0))])) (Fini own_D Z n0 s room_1 (some (.int q.1)) q.2) := by
  unfold f0_133 at hf
  refine i_iconst (pc' := 134) (v := (3 : Int32)) K X at_133 rfl rfl ?_
  refine i_iload (pc' := 136) K X at_134 rfl rfl ?_
  refine i_iload (pc' := 138) K X at_136 rfl rfl ?_
  obtain ⟨A1, g1, hf⟩ := bs hf
  refine calls (pc' := 141) (kc := cells) (ks := slots) (S' := []) (st := []) K X (i1 := 1) rfl (i2 := 2) rfl (i3 := 3) rfl (i4 := 4) rfl (by decide) (rm1 (l := l) (n0 := n0) (K.2.2.2.2.2.2.2.2) A r0 (3 : Int32) i9 i8 g1) pd_1 rfl at_138 rfl rfl (by decide) (w := 0) (Nat.le_of_eq rfl) (by decide) (show cells + 0 ≤ 16 by omega) (show slots + 0 ≤ 128 by omega) rfl rfl rfl rfl (fun T1 X1 => ?_)
  refine i_aload (pc' := 143) K X1 at_141 rfl rfl rfl ?_
  refine i_iconst (pc' := 144) (v := (4 : Int32)) K X1 at_143 rfl rfl ?_
  refine i_iload (pc' := 146) K X1 at_144 rfl rfl ?_
  refine i_iload (pc' := 148) K X1 at_146 rfl rfl ?_
  obtain ⟨A2, g2, hf⟩ := bs hf
  refine calls (pc' := 151) (kc := cells) (ks := slots) (S' := []) (st := []) K X1 (i1 := 1) rfl (i2 := 2) rfl (i3 := 3) rfl (i4 := 4) rfl (by decide) (rm1 (l := l) (n0 := n0) (K.2.2.2.2.2.2.2.2) A1 o5 (4 : Int32) i9 i8 g2) pd_1 rfl at_148 rfl rfl (by decide) (w := 0) (Nat.le_of_eq rfl) (by decide) (show cells + 0 ≤ 16 by omega) (show slots + 0 ≤ 128 by omega) rfl rfl rfl rfl (fun T2 X2 => ?_)
  refine i_aload (pc' := 153) K X2 at_151 rfl rfl rfl ?_
  refine i_iconst (pc' := 154) (v := (5 : Int32)) K X2 at_153 rfl rfl ?_
  refine i_iload (pc' := 156) K X2 at_154 rfl rfl ?_
  refine i_iload (pc' := 158) K X2 at_156 rfl rfl ?_
  obtain ⟨A3, g3, hf⟩ := bs hf
  refine calls (pc' := 161) (kc := cells) (ks := slots) (S' := []) (st := []) K X2 (i1 := 1) rfl (i2 := 2) rfl (i3 := 3) rfl (i4 := 4) rfl (by decide) (rm1 (l := l) (n0 := n0) (K.2.2.2.2.2.2.2.2) A2 o5 (5 : Int32) i9 i8 g3) pd_1 rfl at_158 rfl rfl (by decide) (w := 0) (Nat.le_of_eq rfl) (by decide) (show cells + 0 ≤ 16 by omega) (show slots + 0 ≤ 128 by omega) rfl rfl rfl rfl (fun T3 X3 => ?_)
  refine i_aload (pc' := 163) K X3 at_161 rfl rfl rfl ?_
  refine i_bipush (pc' := 165) (v := (6 : Int32)) K X3 at_163 rfl rfl ?_
  exact w0_165 K sep X3 i0 i1 i2 i3 i4 o5 i6 i7 i8 i9 (6 : Int32) o5 (show cells + 0 ≤ 16 by omega) (show slots + 0 ≤ 128 by omega) hf
def f0_101 (A : AH) (i3 : Int32) (o5 : Nat) (i6 : Int32) (i7 : Int32) (i8 : Int32) (i9 : Int32) : Option (Int32 × AH) :=
  (f1_0 A o5 (0 : Int32) i9 i8).bind fun A1 =>
  (f1_0 A1 o5 (1 : Int32) i9 i8).bind fun A2 =>
  (f1_0 A2 o5 (2 : Int32) i9 i8).bind fun A3 =>
  f0_133 A3 i3 o5 i6 i7 i8 i9 o5
set_option maxRecDepth 65536 in
set_option maxHeartbeats 4000000 in
theorem w0_101 (K : Cx p l e room_1 s m meth c Z a0 tables_1 "com/example/thabiti/thabiti/core/HashingFreePinLaw" "law" code maxLocals ret) (sep : ∀ t, Sep Z (own_D t).2) (X : On p l e room_1 s m args below meth c own_D Z n0 T A cells slots) (i0 : Int32) (i1 : Int32) (i2 : Int32) (i3 : Int32) (i4 : Int32) (o5 : Nat) (i6 : Int32) (i7 : Int32) (i8 : Int32) (i9 : Int32) (hc : cells + 0 ≤ 16) (hs : slots + 0 ≤ 128) {q : Int32 × AH} (hf : f0_101 A i3 o5 i6 i7 i8 i9 = some q) :
    Go p e below (T.setTop (mkF m 101 #[.val (.int i0), .val (.int i1), .val (.int i2), .val (.int i3), .val (.int i4), .val (.ref (n0 + o5)), .val (.int i6), .val (.int i7), .val (.int i8), .val (.int i9), .unset, .unset, .unset] [])) (Fini own_D Z n0 s room_1 (some (.int q.1)) q.2) := by
  unfold f0_101 at hf
  refine i_aload (pc' := 103) K X at_101 rfl rfl rfl ?_
  refine i_iconst (pc' := 104) (v := (0 : Int32)) K X at_103 rfl rfl ?_
  refine i_iload (pc' := 106) K X at_104 rfl rfl ?_
  refine i_iload (pc' := 108) K X at_106 rfl rfl ?_
  obtain ⟨A1, g1, hf⟩ := bs hf
  refine calls (pc' := 111) (kc := cells) (ks := slots) (S' := []) (st := []) K X (i1 := 1) rfl (i2 := 2) rfl (i3 := 3) rfl (i4 := 4) rfl (by decide) (rm1 (l := l) (n0 := n0) (K.2.2.2.2.2.2.2.2) A o5 (0 : Int32) i9 i8 g1) pd_1 rfl at_108 rfl rfl (by decide) (w := 0) (Nat.le_of_eq rfl) (by decide) (show cells + 0 ≤ 16 by omega) (show slots + 0 ≤ 128 by omega) rfl rfl rfl rfl (fun T1 X1 => ?_)
  refine i_aload (pc' := 113) K X1 at_111 rfl rfl rfl ?_
  refine i_iconst (pc' := 114) (v := (1 : Int32)) K X1 at_113 rfl rfl ?_
  refine i_iload (pc' := 116) K X1 at_114 rfl rfl ?_
  refine i_iload (pc' := 118) K X1 at_116 rfl rfl ?_
  obtain ⟨A2, g2, hf⟩ := bs hf
  refine calls (pc' := 121) (kc := cells) (ks := slots) (S' := []) (st := []) K X1 (i1 := 1) rfl (i2 := 2) rfl (i3 := 3) rfl (i4 := 4) rfl (by decide) (rm1 (l := l) (n0 := n0) (K.2.2.2.2.2.2.2.2) A1 o5 (1 : Int32) i9 i8 g2) pd_1 rfl at_118 rfl rfl (by decide) (w := 0) (Nat.le_of_eq rfl) (by decide) (show cells + 0 ≤ 16 by omega) (show slots + 0 ≤ 128 by omega) rfl rfl rfl rfl (fun T2 X2 => ?_)
  refine i_aload (pc' := 123) K X2 at_121 rfl rfl rfl ?_
  refine i_iconst (pc' := 124) (v := (2 : Int32)) K X2 at_123 rfl rfl ?_
  refine i_iload (pc' := 126) K X2 at_124 rfl rfl ?_
  refine i_iload (pc' := 128) K X2 at_126 rfl rfl ?_
  obtain ⟨A3, g3, hf⟩ := bs hf
  refine calls (pc' := 131) (kc := cells) (ks := slots) (S' := []) (st := []) K X2 (i1 := 1) rfl (i2 := 2) rfl (i3 := 3) rfl (i4 := 4) rfl (by decide) (rm1 (l := l) (n0 := n0) (K.2.2.2.2.2.2.2.2) A2 o5 (2 : Int32) i9 i8 g3) pd_1 rfl at_128 rfl rfl (by decide) (w := 0) (Nat.le_of_eq rfl) (by decide) (show cells + 0 ≤ 16 by omega) (show slots + 0 ≤ 128 by omega) rfl rfl rfl rfl (fun T3 X3 => ?_)
  refine i_aload (pc' := 133) K X3 at_131 rfl rfl rfl ?_
  exact w0_133 K sep X3 i0 i1 i2 i3 i4 o5 i6 i7 i8 i9 o5 (show cells + 0 ≤ 16 by omega) (show slots + 0 ≤ 128 by omega) hf
def f0_95 (A : AH) (i3 : Int32) (o5 : Nat) (i6 : Int32) (i7 : Int32) (i8 : Int32) (s0 : Int32) (s1 : Int32) : Option (Int32 × AH) :=
  f0_101 A i3 o5 i6 i7 i8 (s1 <<< ((s0 &&& i7) &&& 31))
set_option maxRecDepth 65536 in
set_option maxHeartbeats 4000000 in
theorem w0_95 (K : Cx p l e room_1 s m meth c Z a0 tables_1 "com/example/thabiti/thabiti/core/HashingFreePinLaw" "law" code maxLocals ret) (sep : ∀ t, Sep Z (own_D t).2) (X : On p l e room_1 s m args below meth c own_D Z n0 T A cells slots) (i0 : Int32) (i1 : Int32) (i2 : Int32) (i3 : Int32) (i4 : Int32) (o5 : Nat) (i6 : Int32) (i7 : Int32) (i8 : Int32) (i9 : Int32) (s0 : Int32) (s1 : Int32) (hc : cells + 0 ≤ 16) (hs : slots + 0 ≤ 128) {q : Int32 × AH} (hf : f0_95 A i3 o5 i6 i7 i8 s0 s1 = some q) :
    Go p e below (T.setTop (mkF m 95 #[.val (.int i0), .val (.int i1), .val (.int i2), .val (.int i3), .val (.int i4), .val (.ref (n0 + o5)), .val (.int i6), .val (.int i7), .val (.int i8), .val (.int i9), .unset, .unset, .unset] [(.int s0), (.int s1)])) (Fini own_D Z n0 s room_1 (some (.int q.1)) q.2) := by
  unfold f0_95 at hf
  refine i_iload (pc' := 97) K X at_95 rfl rfl ?_
  refine i_iand (pc' := 98) K X at_97 rfl ?_
  refine i_ishl (pc' := 99) K X at_98 rfl ?_
  refine i_istore (pc' := 101) (Ls' := #[.val (.int i0), .val (.int i1), .val (.int i2), .val (.int i3), .val (.int i4), .val (.ref (n0 + o5)), .val (.int i6), .val (.int i7), .val (.int i8), .val (.int (s1 <<< ((s0 &&& i7) &&& 31))), .unset, .unset, .unset]) K X at_99 rfl rfl ?_
  exact w0_101 K sep X i0 i1 i2 i3 i4 o5 i6 i7 i8 (s1 <<< ((s0 &&& i7) &&& 31)) (show cells + 0 ≤ 16 by omega) (show slots + 0 ≤ 128 by omega) hf
def f0_83 (A : AH) (i1 : Int32) (i3 : Int32) (o5 : Nat) (i6 : Int32) (i7 : Int32) (i8 : Int32) (s0 : Int32) : Option (Int32 × AH) :=
  if s0 = (0 : Int32) then (f0_95 A i3 o5 i6 i7 i8 (((i1).toUInt32 >>> ((8 : Int32) &&& 31).toUInt32).toInt32) (1 : Int32))
  else (f0_101 A i3 o5 i6 i7 i8 s0)
set_option maxRecDepth 65536 in
set_option maxHeartbeats 4000000 in
theorem w0_83 (K : Cx p l e room_1 s m meth c Z a0 tables_1 "com/example/thabiti/thabiti/core/HashingFreePinLaw" "law" code maxLocals ret) (sep : ∀ t, Sep Z (own_D t).2) (X : On p l e room_1 s m args below meth c own_D Z n0 T A cells slots) (i0 : Int32) (i1 : Int32) (i2 : Int32) (i3 : Int32) (i4 : Int32) (o5 : Nat) (i6 : Int32) (i7 : Int32) (i8 : Int32) (s0 : Int32) (hc : cells + 0 ≤ 16) (hs : slots + 0 ≤ 128) {q : Int32 × AH} (hf : f0_83 A i1 i3 o5 i6 i7 i8 s0 = some q) :
    Go p e below (T.setTop (mkF m 83 #[.val (.int i0), .val (.int i1), .val (.int i2), .val (.int i3), .val (.int i4), .val (.ref (n0 + o5)), .val (.int i6), .val (.int i7), .val (.int i8), .unset, .unset, .unset, .unset] [(.int s0)])) (Fini own_D Z n0 s room_1 (some (.int q.1)) q.2) := by
  unfold f0_83 at hf
  refine i_istore (pc' := 85) (Ls' := #[.val (.int i0), .val (.int i1), .val (.int i2), .val (.int i3), .val (.int i4), .val (.ref (n0 + o5)), .val (.int i6), .val (.int i7), .val (.int i8), .val (.int s0), .unset, .unset, .unset]) K X at_83 rfl rfl ?_
  refine i_iload (pc' := 87) K X at_85 rfl rfl ?_
  by_cases hc87 : s0 = (0 : Int32)
  · rw [if_pos hc87] at hf
    refine i_ifNo (pc' := 90) K X at_87 rfl (teq hc87).2 ?_
    refine i_iconst (pc' := 91) (v := (1 : Int32)) K X at_90 rfl rfl ?_
    refine i_iloadN (pc' := 92) K X at_91 rfl rfl ?_
    refine i_bipush (pc' := 94) (v := (8 : Int32)) K X at_92 rfl rfl ?_
    refine i_iushr (pc' := 95) K X at_94 rfl ?_
    exact w0_95 K sep X i0 i1 i2 i3 i4 o5 i6 i7 i8 s0 (((i1).toUInt32 >>> ((8 : Int32) &&& 31).toUInt32).toInt32) (1 : Int32) (show cells + 0 ≤ 16 by omega) (show slots + 0 ≤ 128 by omega) hf
  · rw [if_neg hc87] at hf
    refine i_ifYes (pc' := 101) K X at_87 (feq hc87).2 (by decide) (by decide) ?_
    exact w0_101 K sep X i0 i1 i2 i3 i4 o5 i6 i7 i8 s0 (show cells + 0 ≤ 16 by omega) (show slots + 0 ≤ 128 by omega) hf
def f0_73 (A : AH) (i1 : Int32) (i3 : Int32) (o5 : Nat) (i6 : Int32) (i7 : Int32) (s0 : Int32) : Option (Int32 × AH) :=
  f0_83 A i1 i3 o5 i6 i7 s0 (i1 &&& (((1 : Int32) <<< (i6 &&& 31)) - (1 : Int32)))
set_option maxRecDepth 65536 in
set_option maxHeartbeats 4000000 in
theorem w0_73 (K : Cx p l e room_1 s m meth c Z a0 tables_1 "com/example/thabiti/thabiti/core/HashingFreePinLaw" "law" code maxLocals ret) (sep : ∀ t, Sep Z (own_D t).2) (X : On p l e room_1 s m args below meth c own_D Z n0 T A cells slots) (i0 : Int32) (i1 : Int32) (i2 : Int32) (i3 : Int32) (i4 : Int32) (o5 : Nat) (i6 : Int32) (i7 : Int32) (s0 : Int32) (hc : cells + 0 ≤ 16) (hs : slots + 0 ≤ 128) {q : Int32 × AH} (hf : f0_73 A i1 i3 o5 i6 i7 s0 = some q) :
    Go p e below (T.setTop (mkF m 73 #[.val (.int i0), .val (.int i1), .val (.int i2), .val (.int i3), .val (.int i4), .val (.ref (n0 + o5)), .val (.int i6), .val (.int i7), .unset, .unset, .unset, .unset, .unset] [(.int s0)])) (Fini own_D Z n0 s room_1 (some (.int q.1)) q.2) := by
  unfold f0_73 at hf
  refine i_istore (pc' := 75) (Ls' := #[.val (.int i0), .val (.int i1), .val (.int i2), .val (.int i3), .val (.int i4), .val (.ref (n0 + o5)), .val (.int i6), .val (.int i7), .val (.int s0), .unset, .unset, .unset, .unset]) K X at_73 rfl rfl ?_
  refine i_iloadN (pc' := 76) K X at_75 rfl rfl ?_
  refine i_iconst (pc' := 77) (v := (1 : Int32)) K X at_76 rfl rfl ?_
  refine i_iload (pc' := 79) K X at_77 rfl rfl ?_
  refine i_ishl (pc' := 80) K X at_79 rfl ?_
  refine i_iconst (pc' := 81) (v := (1 : Int32)) K X at_80 rfl rfl ?_
  refine i_isub (pc' := 82) K X at_81 rfl ?_
  refine i_iand (pc' := 83) K X at_82 rfl ?_
  exact w0_83 K sep X i0 i1 i2 i3 i4 o5 i6 i7 s0 (i1 &&& (((1 : Int32) <<< (i6 &&& 31)) - (1 : Int32))) (show cells + 0 ≤ 16 by omega) (show slots + 0 ≤ 128 by omega) hf
def f0_52 (A : AH) (i1 : Int32) (i2 : Int32) (i3 : Int32) (o5 : Nat) : Option (Int32 × AH) :=
  (h_alen A 0 o5).bind fun v1 =>
  if i2 = (-1 : Int32) then (f0_73 A i1 i3 o5 v1 (v1 - (1 : Int32)) (0 : Int32))
  else (f0_73 A i1 i3 o5 v1 (v1 - (1 : Int32)) i2)
set_option maxRecDepth 65536 in
set_option maxHeartbeats 4000000 in
theorem w0_52 (K : Cx p l e room_1 s m meth c Z a0 tables_1 "com/example/thabiti/thabiti/core/HashingFreePinLaw" "law" code maxLocals ret) (sep : ∀ t, Sep Z (own_D t).2) (X : On p l e room_1 s m args below meth c own_D Z n0 T A cells slots) (i0 : Int32) (i1 : Int32) (i2 : Int32) (i3 : Int32) (i4 : Int32) (o5 : Nat) (hc : cells + 0 ≤ 16) (hs : slots + 0 ≤ 128) {q : Int32 × AH} (hf : f0_52 A i1 i2 i3 o5 = some q) :
    Go p e below (T.setTop (mkF m 52 #[.val (.int i0), .val (.int i1), .val (.int i2), .val (.int i3), .val (.int i4), .val (.ref (n0 + o5)), .unset, .unset, .unset, .unset, .unset, .unset, .unset] [])) (Fini own_D Z n0 s room_1 (some (.int q.1)) q.2) := by
  unfold f0_52 at hf
  refine i_aload (pc' := 54) K X at_52 rfl rfl rfl ?_
  obtain ⟨v1, g1, hf⟩ := bs hf
  refine h_alen' (pc' := 55) K X (t := 0) (by decide) g1 at_54 rfl ?_
  refine i_istore (pc' := 57) (Ls' := #[.val (.int i0), .val (.int i1), .val (.int i2), .val (.int i3), .val (.int i4), .val (.ref (n0 + o5)), .val (.int v1), .unset, .unset, .unset, .unset, .unset, .unset]) K X at_55 rfl rfl ?_
  refine i_iload (pc' := 59) K X at_57 rfl rfl ?_
  refine i_iconst (pc' := 60) (v := (1 : Int32)) K X at_59 rfl rfl ?_
  refine i_isub (pc' := 61) K X at_60 rfl ?_
  refine i_istore (pc' := 63) (Ls' := #[.val (.int i0), .val (.int i1), .val (.int i2), .val (.int i3), .val (.int i4), .val (.ref (n0 + o5)), .val (.int v1), .val (.int (v1 - (1 : Int32))), .unset, .unset, .unset, .unset, .unset]) K X at_61 rfl rfl ?_
  refine i_iloadN (pc' := 64) K X at_63 rfl rfl ?_
  refine i_iconst (pc' := 65) (v := (-1 : Int32)) K X at_64 rfl rfl ?_
  by_cases hc65 : i2 = (-1 : Int32)
  · rw [if_pos hc65] at hf
    refine i_icmpNo (pc' := 68) K X at_65 rfl (teq hc65).2 ?_
    refine i_iconst (pc' := 69) (v := (0 : Int32)) K X at_68 rfl rfl ?_
    refine i_goto (pc' := 73) K X at_69 (by decide) (by decide) ?_
    exact w0_73 K sep X i0 i1 i2 i3 i4 o5 v1 (v1 - (1 : Int32)) (0 : Int32) (show cells + 0 ≤ 16 by omega) (show slots + 0 ≤ 128 by omega) hf
  · rw [if_neg hc65] at hf
    refine i_icmpYes (pc' := 72) K X at_65 (feq hc65).2 (by decide) (by decide) ?_
    refine i_iloadN (pc' := 73) K X at_72 rfl rfl ?_
    exact w0_73 K sep X i0 i1 i2 i3 i4 o5 v1 (v1 - (1 : Int32)) i2 (show cells + 0 ≤ 16 by omega) (show slots + 0 ≤ 128 by omega) hf
def f0_0 (A : AH) (i0 : Int32) (i1 : Int32) (i2 : Int32) (i3 : Int32) : Option (Int32 × AH) :=
  if (i0 &&& (3 : Int32)) = (0 : Int32) then ((h_anew A 0 1 (1 : Int32) (.int 0)).bind fun q4 =>
  f0_52 q4.2 i1 i2 i3 q4.1)
  else (if (i0 &&& (3 : Int32)) = (1 : Int32) then ((h_anew A 0 2 (2 : Int32) (.int 0)).bind fun q3 =>
  f0_52 q3.2 i1 i2 i3 q3.1)
  else (if (i0 &&& (3 : Int32)) = (2 : Int32) then ((h_anew A 0 4 (4 : Int32) (.int 0)).bind fun q2 =>
  f0_52 q2.2 i1 i2 i3 q2.1)
  else ((h_anew A 0 8 (8 : Int32) (.int 0)).bind fun q1 =>
  f0_52 q1.2 i1 i2 i3 q1.1)))
set_option maxRecDepth 65536 in
set_option maxHeartbeats 4000000 in
theorem w0_0 (K : Cx p l e room_1 s m meth c Z a0 tables_1 "com/example/thabiti/thabiti/core/HashingFreePinLaw" "law" code maxLocals ret) (sep : ∀ t, Sep Z (own_D t).2) (X : On p l e room_1 s m args below meth c own_D Z n0 T A cells slots) (i0 : Int32) (i1 : Int32) (i2 : Int32) (i3 : Int32) (hc : cells + 1 ≤ 16) (hs : slots + 8 ≤ 128) {q : Int32 × AH} (hf : f0_0 A i0 i1 i2 i3 = some q) :
    Go p e below (T.setTop (mkF m 0 #[.val (.int i0), .val (.int i1), .val (.int i2), .val (.int i3), .unset, .unset, .unset, .unset, .unset, .unset, .unset, .unset, .unset] [])) (Fini own_D Z n0 s room_1 (some (.int q.1)) q.2) := by
  unfold f0_0 at hf
  refine i_iloadN (pc' := 1) K X at_0 rfl rfl ?_
  refine i_iconst (pc' := 2) (v := (3 : Int32)) K X at_1 rfl rfl ?_
  refine i_iand (pc' := 3) K X at_2 rfl ?_
  refine i_istore (pc' := 5) (Ls' := #[.val (.int i0), .val (.int i1), .val (.int i2), .val (.int i3), .val (.int (i0 &&& (3 : Int32))), .unset, .unset, .unset, .unset, .unset, .unset, .unset, .unset]) K X at_3 rfl rfl ?_
  refine i_iload (pc' := 7) K X at_5 rfl rfl ?_
  by_cases hc7 : (i0 &&& (3 : Int32)) = (0 : Int32)
  · rw [if_pos hc7] at hf
    refine i_ifNo (pc' := 10) K X at_7 rfl (teq hc7).2 ?_
    refine i_iconst (pc' := 11) (v := (1 : Int32)) K X at_10 rfl rfl ?_
    obtain ⟨q4, g4, hf⟩ := bs hf
    refine newa (pc' := 13) K X (i1 := 0) (at' := .int) rfl at_11 (t := 0) (cap := 1) (by decide) (show cells + 1 ≤ 16 by omega) (show slots + 1 ≤ 128 by omega) (by decide) rfl rfl g4 rfl (fun T4 X4 => ?_)
    refine i_astore (pc' := 15) (Ls' := #[.val (.int i0), .val (.int i1), .val (.int i2), .val (.int i3), .val (.int (i0 &&& (3 : Int32))), .val (.ref (n0 + q4.1)), .unset, .unset, .unset, .unset, .unset, .unset, .unset]) K X4 at_13 rfl rfl rfl ?_
    refine i_goto (pc' := 52) K X4 at_15 (by decide) (by decide) ?_
    exact w0_52 K sep X4 i0 i1 i2 i3 (i0 &&& (3 : Int32)) q4.1 (show cells + 1 + 0 ≤ 16 by omega) (show slots + 1 + 0 ≤ 128 by omega) hf
  · rw [if_neg hc7] at hf
    refine i_ifYes (pc' := 18) K X at_7 (feq hc7).2 (by decide) (by decide) ?_
    refine i_iload (pc' := 20) K X at_18 rfl rfl ?_
    refine i_iconst (pc' := 21) (v := (1 : Int32)) K X at_20 rfl rfl ?_
    by_cases hc21 : (i0 &&& (3 : Int32)) = (1 : Int32)
    · rw [if_pos hc21] at hf
      refine i_icmpNo (pc' := 24) K X at_21 rfl (teq hc21).2 ?_
      refine i_iconst (pc' := 25) (v := (2 : Int32)) K X at_24 rfl rfl ?_
      obtain ⟨q3, g3, hf⟩ := bs hf
      refine newa (pc' := 27) K X (i1 := 0) (at' := .int) rfl at_25 (t := 0) (cap := 2) (by decide) (show cells + 1 ≤ 16 by omega) (show slots + 2 ≤ 128 by omega) (by decide) rfl rfl g3 rfl (fun T3 X3 => ?_)
      refine i_astore (pc' := 29) (Ls' := #[.val (.int i0), .val (.int i1), .val (.int i2), .val (.int i3), .val (.int (i0 &&& (3 : Int32))), .val (.ref (n0 + q3.1)), .unset, .unset, .unset, .unset, .unset, .unset, .unset]) K X3 at_27 rfl rfl rfl ?_
      refine i_goto (pc' := 52) K X3 at_29 (by decide) (by decide) ?_
      exact w0_52 K sep X3 i0 i1 i2 i3 (i0 &&& (3 : Int32)) q3.1 (show cells + 1 + 0 ≤ 16 by omega) (show slots + 2 + 0 ≤ 128 by omega) hf
    · rw [if_neg hc21] at hf
      refine i_icmpYes (pc' := 32) K X at_21 (feq hc21).2 (by decide) (by decide) ?_
      refine i_iload (pc' := 34) K X at_32 rfl rfl ?_
      refine i_iconst (pc' := 35) (v := (2 : Int32)) K X at_34 rfl rfl ?_
      by_cases hc35 : (i0 &&& (3 : Int32)) = (2 : Int32)
      · rw [if_pos hc35] at hf
        refine i_icmpNo (pc' := 38) K X at_35 rfl (teq hc35).2 ?_
        refine i_iconst (pc' := 39) (v := (4 : Int32)) K X at_38 rfl rfl ?_
        obtain ⟨q2, g2, hf⟩ := bs hf
        refine newa (pc' := 41) K X (i1 := 0) (at' := .int) rfl at_39 (t := 0) (cap := 4) (by decide) (show cells + 1 ≤ 16 by omega) (show slots + 4 ≤ 128 by omega) (by decide) rfl rfl g2 rfl (fun T2 X2 => ?_)
        refine i_astore (pc' := 43) (Ls' := #[.val (.int i0), .val (.int i1), .val (.int i2), .val (.int i3), .val (.int (i0 &&& (3 : Int32))), .val (.ref (n0 + q2.1)), .unset, .unset, .unset, .unset, .unset, .unset, .unset]) K X2 at_41 rfl rfl rfl ?_
        refine i_goto (pc' := 52) K X2 at_43 (by decide) (by decide) ?_
        exact w0_52 K sep X2 i0 i1 i2 i3 (i0 &&& (3 : Int32)) q2.1 (show cells + 1 + 0 ≤ 16 by omega) (show slots + 4 + 0 ≤ 128 by omega) hf
      · rw [if_neg hc35] at hf
        refine i_icmpYes (pc' := 46) K X at_35 (feq hc35).2 (by decide) (by decide) ?_
        refine i_bipush (pc' := 48) (v := (8 : Int32)) K X at_46 rfl rfl ?_
        obtain ⟨q1, g1, hf⟩ := bs hf
        refine newa (pc' := 50) K X (i1 := 0) (at' := .int) rfl at_48 (t := 0) (cap := 8) (by decide) (show cells + 1 ≤ 16 by omega) (show slots + 8 ≤ 128 by omega) (by decide) rfl rfl g1 rfl (fun T1 X1 => ?_)
        refine i_astore (pc' := 52) (Ls' := #[.val (.int i0), .val (.int i1), .val (.int i2), .val (.int i3), .val (.int (i0 &&& (3 : Int32))), .val (.ref (n0 + q1.1)), .unset, .unset, .unset, .unset, .unset, .unset, .unset]) K X1 at_50 rfl rfl rfl ?_
        exact w0_52 K sep X1 i0 i1 i2 i3 (i0 &&& (3 : Int32)) q1.1 (show cells + 1 + 0 ≤ 16 by omega) (show slots + 8 + 0 ≤ 128 by omega) hf
theorem pn_0 : plainName "com/example/thabiti/thabiti/core/HashingFreePinLaw" = true := by first | (simp [plainName, overriddenIn]; done) | decide +kernel
theorem rm0 {l : Launch} {Z : State} {a0 : Array Value} {n0 : Nat} (hw : ∀ d ∈ tables_1, d.before a0 Z = true) (A : AH) (i0 : Int32) (i1 : Int32) (i2 : Int32) (i3 : Int32) {q : Int32 × AH} (hf : f0_0 A i0 i1 i2 i3 = some q) :
    Met l own_D Z n0 x code maxLocals ret room_1 [(.int i0), (.int i1), (.int i2), (.int i3)] A (some (.int q.1)) q.2 :=
  met (W := tables_1) (a0 := a0) (own := "com/example/thabiti/thabiti/core/HashingFreePinLaw") (nm := "law") (L0 := #[.val (.int i0), .val (.int i1), .val (.int i2), .val (.int i3), .unset, .unset, .unset, .unset, .unset, .unset, .unset, .unset, .unset]) (plainFor_of_name pn_0) hw rfl rfl (fun m => by first | (simp [entryFrame, mkF, argsToLocals, Value.category, maxLocals]; done) | rfl) (fun p e s m below meth c T K X => w0_0 K (own_sep hw) X i0 i1 i2 i3 (show 0 + 1 ≤ 16 by decide) (show 0 + 8 ≤ 128 by decide) hf)
end OwnWalk
/-! the plain law -/
theorem own_f1 (A A' : AH) (n q e o : Int32) (hl : h_alen A 0 0 = some n) (h : q < n) (hs : h_aset A 0 0 q (.int (f2_0 q e o)) = some A') : f1_0 A 0 q e o = some A' := by
  unfold f1_0 f1_15
  rw [hl, Option.bind_some, if_pos h, hs, Option.bind_some]
theorem own_f0 (A : AH) (n q e o : Int32) (hl : h_alen A 0 0 = some n) (h : ¬ q < n) : f1_0 A 0 q e o = some A := by
  unfold f1_0 f1_15
  rw [hl, Option.bind_some, if_neg h]
theorem own_ok (A : AH) (n e o s dr q : Int32) (hl : h_alen A 0 0 = some n) (hq : q < n → asI (h_aget A 0 0 q) = some (f2_0 q e o)) (hd : q < n → f2_0 q e o = -1 → ¬ ((q - s) &&& (n - 1)) < dr) : f4_0 A 0 q e o s dr = some (1, A) := by
  unfold f4_0
  rw [hl, Option.bind_some]
  by_cases h : q < n
  · rw [if_pos h, hq h, Option.bind_some, if_pos rfl]
    unfold f4_29
    by_cases g : f2_0 q e o = -1
    · rw [if_pos g, hl, Option.bind_some, if_neg (hd h g)]; rfl
    · rw [if_neg g]; rfl
  · rw [if_neg h]; rfl
theorem own_all (A : AH) (n e o s dr : Int32) (h : ∀ q : Int32, 0 ≤ q.toInt → f4_0 A 0 q e o s dr = some (1, A)) : f0_232 A 0 o e s dr = some (1, A) := by
  have ne : ¬ ((1 : Int32) = 0) := by decide
  unfold f0_232
  rw [h 0 (by decide), Option.bind_some, if_neg ne, h 1 (by decide), Option.bind_some, if_neg ne]
  unfold f0_266
  rw [h 2 (by decide), Option.bind_some, if_neg ne, h 3 (by decide), Option.bind_some, if_neg ne]
  unfold f0_300
  rw [h 4 (by decide), Option.bind_some, if_neg ne, h 5 (by decide), Option.bind_some, if_neg ne]
  unfold f0_334
  rw [h 6 (by decide), Option.bind_some, if_neg ne, h 7 (by decide), Option.bind_some, if_neg ne]
  rfl
theorem own_bit (q e o : Int32) (k : Nat) (hk : q.toBitVec.toNat % 32 = k) (h0 : 0 < k) (hb : ¬ (e.toInt % 4294967296) / (2 ^ k : Nat) % 2 = 0) : f2_0 q e o = -1 := by
  unfold f2_0 f2_3 f2_13
  rw [if_neg]
  intro z
  apply hb
  have e1 := c_iushr e q k hk h0
  have e2 := c_mask ((e.toUInt32 >>> (q &&& 31).toUInt32).toInt32) 1 1 (by decide) (by decide)
  rw [e1, z] at e2
  exact e2.symm
theorem own_bit0 (e o : Int32) (hb : ¬ e.toInt % 2 = 0) : f2_0 0 e o = -1 := by
  unfold f2_0 f2_3 f2_13
  have e0 : ((e.toUInt32 >>> ((0 : Int32) &&& 31).toUInt32).toInt32) = e := by
    have : ((0 : Int32) &&& 31).toUInt32 = 0 := by decide
    rw [this]; simp
  rw [e0, if_neg]
  intro z
  have e2 := c_mask e 1 1 (by decide) (by decide)
  rw [z] at e2
  exact hb e2.symm
theorem own_loop1 (A : AH) (F : Int32 → Int32) (hg : ∀ x : Int32, 0 ≤ x.toInt → x.toInt < 1 → asI (h_aget A 0 0 x) = some (F x)) : ∀ (k : Nat) (i : Int32), 0 ≤ i.toInt → i.toInt < 1 → (∃ (d : Nat) (x : Int32), d < k ∧ x.toInt = (i.toInt + d) % 1 ∧ F x = -1) →
    ∃ (d : Nat) (r : Int32), f3_9 k A 0 0 i = some (r, A) ∧ r.toInt = (i.toInt + d) % 1 ∧ F r = -1 ∧ ∀ (d' : Nat) (x : Int32), d' < d → x.toInt = (i.toInt + d') % 1 → F x ≠ -1
  | 0, i, _, _, ⟨d, _, h, _⟩ => absurd h (Nat.not_lt_zero d)
  | k + 1, i, i0, i1, ⟨d, x, hd, hx, hF⟩ => by
    have e : f3_9 (k + 1) A 0 0 i = g3_9 (f3_9 k) A 0 0 i := rfl
    rw [e]
    unfold g3_9
    rw [hg i i0 i1, Option.bind_some]
    by_cases c : F i = -1
    · exact ⟨0, i, by rw [if_pos c], by omega, c, fun d' _ h => absurd h (Nat.not_lt_zero d')⟩
    · have a1 := c_iadd i 1
      rw [show (1 : Int32).toInt = 1 from by decide] at a1
      have r1 := rng32 (i + 1)
      have m1 := c_mask (i + 1) 0 0 (by decide) (by decide)
      simp only [show ((2 ^ 0 : Nat) : Int) = 1 from rfl] at m1
      have dn : d ≠ 0 := fun z => by
        subst z
        have : x = i := Int32.toInt_inj.mp (by omega)
        exact c (this ▸ hF)
      obtain ⟨d2, r, h1, h2, h3, h4⟩ := own_loop1 A F hg k ((i + 1) &&& 0) (by omega) (by omega) ⟨d - 1, x, by omega, by omega, hF⟩
      refine ⟨d2 + 1, r, by rw [if_neg c]; exact h1, by omega, h3, fun d' y hd' hy => ?_⟩
      by_cases z : d' = 0
      · subst z
        have : y = i := Int32.toInt_inj.mp (by omega)
        exact this ▸ c
      · exact h4 (d' - 1) y (by omega) (by omega)
theorem own_end1 (A : AH) (e o h : Int32) (hl : h_alen A 0 0 = some 1) (hg : ∀ x : Int32, 0 ≤ x.toInt → x.toInt < 1 → asI (h_aget A 0 0 x) = some (f2_0 x e o)) (hex : ∃ x : Int32, 0 ≤ x.toInt ∧ x.toInt < 1 ∧ f2_0 x e o = -1) :
    ((f3_0 A 0 h).bind fun q3 => if q3.1 < (0 : Int32) then (f0_203 q3.2) else (f0_200 q3.2 h 0 0 o e q3.1 1 q3.1)) = some (1, A) := by
  unfold f3_0
  rw [hl, Option.bind_some, show (1 : Int32) - 1 = 0 from by decide]
  have m1 := c_mask h 0 0 (by decide) (by decide)
  simp only [show ((2 ^ 0 : Nat) : Int) = 1 from rfl] at m1
  generalize hs : (h &&& 0) = s at *
  obtain ⟨x, x0, x1, hx⟩ := hex
  obtain ⟨d, r, h1, h2, h3, h4⟩ := own_loop1 A (fun z => f2_0 z e o) hg 40 s (by omega) (by omega) ⟨((x.toInt - s.toInt) % 1).toNat, x, by omega, by omega, hx⟩
  rw [h1, Option.bind_some]
  show (if r < (0 : Int32) then (f0_203 A) else (f0_200 A h 0 0 o e r 1 r)) = some (1, A)
  have zN : (1 : Int32).toInt = 1 := by decide
  have z0 : (0 : Int32).toInt = 0 := by decide
  rw [if_neg (by rw [Int32.lt_iff_toInt_lt]; omega)]
  unfold f0_200
  rw [if_pos (by rw [Int32.lt_iff_toInt_lt]; omega), hg r (by omega) (by omega), Option.bind_some, if_pos h3, hs]
  have a2 := c_isub r s
  have m2 := c_mask (r - s) 0 0 (by decide) (by decide)
  simp only [show ((2 ^ 0 : Nat) : Int) = 1 from rfl] at m2
  refine own_all A 1 e o s ((r - s) &&& 0) (fun q q0 => own_ok A 1 e o s _ q hl (fun hq => hg q q0 (by rw [Int32.lt_iff_toInt_lt] at hq; omega)) (fun hq g => ?_))
  rw [show (1 : Int32) - 1 = 0 from by decide, Int32.lt_iff_toInt_lt]
  rw [Int32.lt_iff_toInt_lt] at hq
  have a3 := c_isub q s
  have m3 := c_mask (q - s) 0 0 (by decide) (by decide)
  simp only [show ((2 ^ 0 : Nat) : Int) = 1 from rfl] at m3
  intro lt
  exact h4 ((q.toInt - s.toInt) % 1).toNat q (by omega) (by omega) g
theorem own_loop2 (A : AH) (F : Int32 → Int32) (hg : ∀ x : Int32, 0 ≤ x.toInt → x.toInt < 2 → asI (h_aget A 0 0 x) = some (F x)) : ∀ (k : Nat) (i : Int32), 0 ≤ i.toInt → i.toInt < 2 → (∃ (d : Nat) (x : Int32), d < k ∧ x.toInt = (i.toInt + d) % 2 ∧ F x = -1) →
    ∃ (d : Nat) (r : Int32), f3_9 k A 0 1 i = some (r, A) ∧ r.toInt = (i.toInt + d) % 2 ∧ F r = -1 ∧ ∀ (d' : Nat) (x : Int32), d' < d → x.toInt = (i.toInt + d') % 2 → F x ≠ -1
  | 0, i, _, _, ⟨d, _, h, _⟩ => absurd h (Nat.not_lt_zero d)
  | k + 1, i, i0, i1, ⟨d, x, hd, hx, hF⟩ => by
    have e : f3_9 (k + 1) A 0 1 i = g3_9 (f3_9 k) A 0 1 i := rfl
    rw [e]
    unfold g3_9
    rw [hg i i0 i1, Option.bind_some]
    by_cases c : F i = -1
    · exact ⟨0, i, by rw [if_pos c], by omega, c, fun d' _ h => absurd h (Nat.not_lt_zero d')⟩
    · have a1 := c_iadd i 1
      rw [show (1 : Int32).toInt = 1 from by decide] at a1
      have r1 := rng32 (i + 1)
      have m1 := c_mask (i + 1) 1 1 (by decide) (by decide)
      simp only [show ((2 ^ 1 : Nat) : Int) = 2 from rfl] at m1
      have dn : d ≠ 0 := fun z => by
        subst z
        have : x = i := Int32.toInt_inj.mp (by omega)
        exact c (this ▸ hF)
      obtain ⟨d2, r, h1, h2, h3, h4⟩ := own_loop2 A F hg k ((i + 1) &&& 1) (by omega) (by omega) ⟨d - 1, x, by omega, by omega, hF⟩
      refine ⟨d2 + 1, r, by rw [if_neg c]; exact h1, by omega, h3, fun d' y hd' hy => ?_⟩
      by_cases z : d' = 0
      · subst z
        have : y = i := Int32.toInt_inj.mp (by omega)
        exact this ▸ c
      · exact h4 (d' - 1) y (by omega) (by omega)
theorem own_end2 (A : AH) (e o h : Int32) (hl : h_alen A 0 0 = some 2) (hg : ∀ x : Int32, 0 ≤ x.toInt → x.toInt < 2 → asI (h_aget A 0 0 x) = some (f2_0 x e o)) (hex : ∃ x : Int32, 0 ≤ x.toInt ∧ x.toInt < 2 ∧ f2_0 x e o = -1) :
    ((f3_0 A 0 h).bind fun q3 => if q3.1 < (0 : Int32) then (f0_203 q3.2) else (f0_200 q3.2 h 0 1 o e q3.1 2 q3.1)) = some (1, A) := by
  unfold f3_0
  rw [hl, Option.bind_some, show (2 : Int32) - 1 = 1 from by decide]
  have m1 := c_mask h 1 1 (by decide) (by decide)
  simp only [show ((2 ^ 1 : Nat) : Int) = 2 from rfl] at m1
  generalize hs : (h &&& 1) = s at *
  obtain ⟨x, x0, x1, hx⟩ := hex
  obtain ⟨d, r, h1, h2, h3, h4⟩ := own_loop2 A (fun z => f2_0 z e o) hg 40 s (by omega) (by omega) ⟨((x.toInt - s.toInt) % 2).toNat, x, by omega, by omega, hx⟩
  rw [h1, Option.bind_some]
  show (if r < (0 : Int32) then (f0_203 A) else (f0_200 A h 0 1 o e r 2 r)) = some (1, A)
  have zN : (2 : Int32).toInt = 2 := by decide
  have z0 : (0 : Int32).toInt = 0 := by decide
  rw [if_neg (by rw [Int32.lt_iff_toInt_lt]; omega)]
  unfold f0_200
  rw [if_pos (by rw [Int32.lt_iff_toInt_lt]; omega), hg r (by omega) (by omega), Option.bind_some, if_pos h3, hs]
  have a2 := c_isub r s
  have m2 := c_mask (r - s) 1 1 (by decide) (by decide)
  simp only [show ((2 ^ 1 : Nat) : Int) = 2 from rfl] at m2
  refine own_all A 2 e o s ((r - s) &&& 1) (fun q q0 => own_ok A 2 e o s _ q hl (fun hq => hg q q0 (by rw [Int32.lt_iff_toInt_lt] at hq; omega)) (fun hq g => ?_))
  rw [show (2 : Int32) - 1 = 1 from by decide, Int32.lt_iff_toInt_lt]
  rw [Int32.lt_iff_toInt_lt] at hq
  have a3 := c_isub q s
  have m3 := c_mask (q - s) 1 1 (by decide) (by decide)
  simp only [show ((2 ^ 1 : Nat) : Int) = 2 from rfl] at m3
  intro lt
  exact h4 ((q.toInt - s.toInt) % 2).toNat q (by omega) (by omega) g
theorem own_loop4 (A : AH) (F : Int32 → Int32) (hg : ∀ x : Int32, 0 ≤ x.toInt → x.toInt < 4 → asI (h_aget A 0 0 x) = some (F x)) : ∀ (k : Nat) (i : Int32), 0 ≤ i.toInt → i.toInt < 4 → (∃ (d : Nat) (x : Int32), d < k ∧ x.toInt = (i.toInt + d) % 4 ∧ F x = -1) →
    ∃ (d : Nat) (r : Int32), f3_9 k A 0 3 i = some (r, A) ∧ r.toInt = (i.toInt + d) % 4 ∧ F r = -1 ∧ ∀ (d' : Nat) (x : Int32), d' < d → x.toInt = (i.toInt + d') % 4 → F x ≠ -1
  | 0, i, _, _, ⟨d, _, h, _⟩ => absurd h (Nat.not_lt_zero d)
  | k + 1, i, i0, i1, ⟨d, x, hd, hx, hF⟩ => by
    have e : f3_9 (k + 1) A 0 3 i = g3_9 (f3_9 k) A 0 3 i := rfl
    rw [e]
    unfold g3_9
    rw [hg i i0 i1, Option.bind_some]
    by_cases c : F i = -1
    · exact ⟨0, i, by rw [if_pos c], by omega, c, fun d' _ h => absurd h (Nat.not_lt_zero d')⟩
    · have a1 := c_iadd i 1
      rw [show (1 : Int32).toInt = 1 from by decide] at a1
      have r1 := rng32 (i + 1)
      have m1 := c_mask (i + 1) 3 2 (by decide) (by decide)
      simp only [show ((2 ^ 2 : Nat) : Int) = 4 from rfl] at m1
      have dn : d ≠ 0 := fun z => by
        subst z
        have : x = i := Int32.toInt_inj.mp (by omega)
        exact c (this ▸ hF)
      obtain ⟨d2, r, h1, h2, h3, h4⟩ := own_loop4 A F hg k ((i + 1) &&& 3) (by omega) (by omega) ⟨d - 1, x, by omega, by omega, hF⟩
      refine ⟨d2 + 1, r, by rw [if_neg c]; exact h1, by omega, h3, fun d' y hd' hy => ?_⟩
      by_cases z : d' = 0
      · subst z
        have : y = i := Int32.toInt_inj.mp (by omega)
        exact this ▸ c
      · exact h4 (d' - 1) y (by omega) (by omega)
theorem own_end4 (A : AH) (e o h : Int32) (hl : h_alen A 0 0 = some 4) (hg : ∀ x : Int32, 0 ≤ x.toInt → x.toInt < 4 → asI (h_aget A 0 0 x) = some (f2_0 x e o)) (hex : ∃ x : Int32, 0 ≤ x.toInt ∧ x.toInt < 4 ∧ f2_0 x e o = -1) :
    ((f3_0 A 0 h).bind fun q3 => if q3.1 < (0 : Int32) then (f0_203 q3.2) else (f0_200 q3.2 h 0 3 o e q3.1 4 q3.1)) = some (1, A) := by
  unfold f3_0
  rw [hl, Option.bind_some, show (4 : Int32) - 1 = 3 from by decide]
  have m1 := c_mask h 3 2 (by decide) (by decide)
  simp only [show ((2 ^ 2 : Nat) : Int) = 4 from rfl] at m1
  generalize hs : (h &&& 3) = s at *
  obtain ⟨x, x0, x1, hx⟩ := hex
  obtain ⟨d, r, h1, h2, h3, h4⟩ := own_loop4 A (fun z => f2_0 z e o) hg 40 s (by omega) (by omega) ⟨((x.toInt - s.toInt) % 4).toNat, x, by omega, by omega, hx⟩
  rw [h1, Option.bind_some]
  show (if r < (0 : Int32) then (f0_203 A) else (f0_200 A h 0 3 o e r 4 r)) = some (1, A)
  have zN : (4 : Int32).toInt = 4 := by decide
  have z0 : (0 : Int32).toInt = 0 := by decide
  rw [if_neg (by rw [Int32.lt_iff_toInt_lt]; omega)]
  unfold f0_200
  rw [if_pos (by rw [Int32.lt_iff_toInt_lt]; omega), hg r (by omega) (by omega), Option.bind_some, if_pos h3, hs]
  have a2 := c_isub r s
  have m2 := c_mask (r - s) 3 2 (by decide) (by decide)
  simp only [show ((2 ^ 2 : Nat) : Int) = 4 from rfl] at m2
  refine own_all A 4 e o s ((r - s) &&& 3) (fun q q0 => own_ok A 4 e o s _ q hl (fun hq => hg q q0 (by rw [Int32.lt_iff_toInt_lt] at hq; omega)) (fun hq g => ?_))
  rw [show (4 : Int32) - 1 = 3 from by decide, Int32.lt_iff_toInt_lt]
  rw [Int32.lt_iff_toInt_lt] at hq
  have a3 := c_isub q s
  have m3 := c_mask (q - s) 3 2 (by decide) (by decide)
  simp only [show ((2 ^ 2 : Nat) : Int) = 4 from rfl] at m3
  intro lt
  exact h4 ((q.toInt - s.toInt) % 4).toNat q (by omega) (by omega) g
theorem own_loop8 (A : AH) (F : Int32 → Int32) (hg : ∀ x : Int32, 0 ≤ x.toInt → x.toInt < 8 → asI (h_aget A 0 0 x) = some (F x)) : ∀ (k : Nat) (i : Int32), 0 ≤ i.toInt → i.toInt < 8 → (∃ (d : Nat) (x : Int32), d < k ∧ x.toInt = (i.toInt + d) % 8 ∧ F x = -1) →
    ∃ (d : Nat) (r : Int32), f3_9 k A 0 7 i = some (r, A) ∧ r.toInt = (i.toInt + d) % 8 ∧ F r = -1 ∧ ∀ (d' : Nat) (x : Int32), d' < d → x.toInt = (i.toInt + d') % 8 → F x ≠ -1
  | 0, i, _, _, ⟨d, _, h, _⟩ => absurd h (Nat.not_lt_zero d)
  | k + 1, i, i0, i1, ⟨d, x, hd, hx, hF⟩ => by
    have e : f3_9 (k + 1) A 0 7 i = g3_9 (f3_9 k) A 0 7 i := rfl
    rw [e]
    unfold g3_9
    rw [hg i i0 i1, Option.bind_some]
    by_cases c : F i = -1
    · exact ⟨0, i, by rw [if_pos c], by omega, c, fun d' _ h => absurd h (Nat.not_lt_zero d')⟩
    · have a1 := c_iadd i 1
      rw [show (1 : Int32).toInt = 1 from by decide] at a1
      have r1 := rng32 (i + 1)
      have m1 := c_mask (i + 1) 7 3 (by decide) (by decide)
      simp only [show ((2 ^ 3 : Nat) : Int) = 8 from rfl] at m1
      have dn : d ≠ 0 := fun z => by
        subst z
        have : x = i := Int32.toInt_inj.mp (by omega)
        exact c (this ▸ hF)
      obtain ⟨d2, r, h1, h2, h3, h4⟩ := own_loop8 A F hg k ((i + 1) &&& 7) (by omega) (by omega) ⟨d - 1, x, by omega, by omega, hF⟩
      refine ⟨d2 + 1, r, by rw [if_neg c]; exact h1, by omega, h3, fun d' y hd' hy => ?_⟩
      by_cases z : d' = 0
      · subst z
        have : y = i := Int32.toInt_inj.mp (by omega)
        exact this ▸ c
      · exact h4 (d' - 1) y (by omega) (by omega)
theorem own_end8 (A : AH) (e o h : Int32) (hl : h_alen A 0 0 = some 8) (hg : ∀ x : Int32, 0 ≤ x.toInt → x.toInt < 8 → asI (h_aget A 0 0 x) = some (f2_0 x e o)) (hex : ∃ x : Int32, 0 ≤ x.toInt ∧ x.toInt < 8 ∧ f2_0 x e o = -1) :
    ((f3_0 A 0 h).bind fun q3 => if q3.1 < (0 : Int32) then (f0_203 q3.2) else (f0_200 q3.2 h 0 7 o e q3.1 8 q3.1)) = some (1, A) := by
  unfold f3_0
  rw [hl, Option.bind_some, show (8 : Int32) - 1 = 7 from by decide]
  have m1 := c_mask h 7 3 (by decide) (by decide)
  simp only [show ((2 ^ 3 : Nat) : Int) = 8 from rfl] at m1
  generalize hs : (h &&& 7) = s at *
  obtain ⟨x, x0, x1, hx⟩ := hex
  obtain ⟨d, r, h1, h2, h3, h4⟩ := own_loop8 A (fun z => f2_0 z e o) hg 40 s (by omega) (by omega) ⟨((x.toInt - s.toInt) % 8).toNat, x, by omega, by omega, hx⟩
  rw [h1, Option.bind_some]
  show (if r < (0 : Int32) then (f0_203 A) else (f0_200 A h 0 7 o e r 8 r)) = some (1, A)
  have zN : (8 : Int32).toInt = 8 := by decide
  have z0 : (0 : Int32).toInt = 0 := by decide
  rw [if_neg (by rw [Int32.lt_iff_toInt_lt]; omega)]
  unfold f0_200
  rw [if_pos (by rw [Int32.lt_iff_toInt_lt]; omega), hg r (by omega) (by omega), Option.bind_some, if_pos h3, hs]
  have a2 := c_isub r s
  have m2 := c_mask (r - s) 7 3 (by decide) (by decide)
  simp only [show ((2 ^ 3 : Nat) : Int) = 8 from rfl] at m2
  refine own_all A 8 e o s ((r - s) &&& 7) (fun q q0 => own_ok A 8 e o s _ q hl (fun hq => hg q q0 (by rw [Int32.lt_iff_toInt_lt] at hq; omega)) (fun hq g => ?_))
  rw [show (8 : Int32) - 1 = 7 from by decide, Int32.lt_iff_toInt_lt]
  rw [Int32.lt_iff_toInt_lt] at hq
  have a3 := c_isub q s
  have m3 := c_mask (q - s) 7 3 (by decide) (by decide)
  simp only [show ((2 ^ 3 : Nat) : Int) = 8 from rfl] at m3
  intro lt
  exact h4 ((q.toInt - s.toInt) % 8).toNat q (by omega) (by omega) g
def own_A1 (x0 : Int32) : AH := [(0, [.int x0])]
theorem own_ln1 (x0 : Int32) : h_alen (own_A1 x0) 0 0 = some 1 := rfl
theorem own_s1_0 (x0 v : Int32) : h_aset (own_A1 x0) 0 0 0 (.int v) = some (own_A1 v) := rfl
theorem own_g1_0 (x0 : Int32) : asI (h_aget (own_A1 x0) 0 0 0) = some x0 := rfl
theorem own_get1 (e o x : Int32) (h0 : 0 ≤ x.toInt) (h1 : x.toInt < 1) : asI (h_aget (own_A1 (f2_0 0 e o)) 0 0 x) = some (f2_0 x e o) := by
  have : x.toInt = 0 := by omega
  have h := this
  · obtain rfl : x = 0 := Int32.toInt_inj.mp (by rw [h]; decide)
    exact own_g1_0 ..
theorem own_go1 (e o h : Int32) (hex : ∃ x : Int32, 0 ≤ x.toInt ∧ x.toInt < 1 ∧ f2_0 x e o = -1) : f0_101 (own_A1 0) h 0 1 0 o e = some (1, (own_A1 (f2_0 0 e o))) := by
  unfold f0_101
  rw [own_f1 _ _ 1 0 e o (own_ln1 ..) (by decide) (own_s1_0 ..), Option.bind_some]
  rw [own_f0 _ 1 1 e o (own_ln1 ..) (by decide), Option.bind_some]
  rw [own_f0 _ 1 2 e o (own_ln1 ..) (by decide), Option.bind_some]
  unfold f0_133
  rw [own_f0 _ 1 3 e o (own_ln1 ..) (by decide), Option.bind_some]
  rw [own_f0 _ 1 4 e o (own_ln1 ..) (by decide), Option.bind_some]
  rw [own_f0 _ 1 5 e o (own_ln1 ..) (by decide), Option.bind_some]
  unfold f0_165
  rw [own_f0 _ 1 6 e o (own_ln1 ..) (by decide), Option.bind_some]
  rw [own_f0 _ 1 7 e o (own_ln1 ..) (by decide), Option.bind_some]
  exact own_end1 _ e o h (own_ln1 ..) (own_get1 e o) hex
theorem own_ex1 (e o : Int32) (h0 : 0 < e.toInt) (h1 : e.toInt < 2) : ∃ x : Int32, 0 ≤ x.toInt ∧ x.toInt < 1 ∧ f2_0 x e o = -1 := by
  by_cases b0 : e.toInt % 2 = 0
  · exfalso; omega
  · exact ⟨0, by decide, by decide, own_bit0 e o b0⟩
theorem own_one1 (y o : Int32) (h0 : 0 ≤ y.toInt) (h1 : y.toInt < 1) : ∃ x : Int32, 0 ≤ x.toInt ∧ x.toInt < 1 ∧ f2_0 x ((1 : Int32) <<< (y &&& 31)) o = -1 := by
  refine ⟨y, h0, h1, ?_⟩
  have : y.toInt = 0 := by omega
  have h := this
  · obtain rfl : y = 0 := Int32.toInt_inj.mp (by rw [h]; decide)
    unfold f2_0 f2_3 f2_13
    rw [if_neg (by decide)]
theorem own_fill1 (p o h : Int32) : ∃ A, f0_73 (own_A1 0) p h 0 1 0 o = some (1, A) := by
  unfold f0_73 f0_83 f0_95
  have e1 : ((1 : Int32) <<< ((1 : Int32) &&& 31)) - 1 = 1 := by decide
  rw [e1]
  have m1 := c_mask p 1 1 (by decide) (by decide)
  simp only [show ((2 ^ 1 : Nat) : Int) = 2 from rfl] at m1
  have z0 : (0 : Int32).toInt = 0 := by decide
  by_cases c : (p &&& 1) = 0
  · rw [if_pos c]
    have m2 := c_mask ((p.toUInt32 >>> ((8 : Int32) &&& 31).toUInt32).toInt32) 0 0 (by decide) (by decide)
    simp only [show ((2 ^ 0 : Nat) : Int) = 1 from rfl] at m2
    exact ⟨_, own_go1 _ o h (own_one1 _ o (by omega) (by omega))⟩
  · rw [if_neg c]
    have c' : (p &&& 1).toInt ≠ 0 := fun z => c (Int32.toInt_inj.mp (by rw [z, z0]))
    exact ⟨_, own_go1 _ o h (own_ex1 _ o (by omega) (by omega))⟩
theorem own_top1 (p o h : Int32) : ∃ A, f0_52 (own_A1 0) p o h 0 = some (1, A) := by
  unfold f0_52
  rw [own_ln1, Option.bind_some, show (1 : Int32) - 1 = 0 from by decide]
  split
  · exact own_fill1 p 0 h
  · exact own_fill1 p o h
theorem own_mk1 : h_anew [] 0 1 1 (.int 0) = some (0, own_A1 0) := rfl
def own_A2 (x0 x1 : Int32) : AH := [(0, [.int x0, .int x1])]
theorem own_ln2 (x0 x1 : Int32) : h_alen (own_A2 x0 x1) 0 0 = some 2 := rfl
theorem own_s2_0 (x0 x1 v : Int32) : h_aset (own_A2 x0 x1) 0 0 0 (.int v) = some (own_A2 v x1) := rfl
theorem own_g2_0 (x0 x1 : Int32) : asI (h_aget (own_A2 x0 x1) 0 0 0) = some x0 := rfl
theorem own_s2_1 (x0 x1 v : Int32) : h_aset (own_A2 x0 x1) 0 0 1 (.int v) = some (own_A2 x0 v) := rfl
theorem own_g2_1 (x0 x1 : Int32) : asI (h_aget (own_A2 x0 x1) 0 0 1) = some x1 := rfl
theorem own_get2 (e o x : Int32) (h0 : 0 ≤ x.toInt) (h1 : x.toInt < 2) : asI (h_aget (own_A2 (f2_0 0 e o) (f2_0 1 e o)) 0 0 x) = some (f2_0 x e o) := by
  have : x.toInt = 0 ∨ x.toInt = 1 := by omega
  rcases this with h | h
  · obtain rfl : x = 0 := Int32.toInt_inj.mp (by rw [h]; decide)
    exact own_g2_0 ..
  · obtain rfl : x = 1 := Int32.toInt_inj.mp (by rw [h]; decide)
    exact own_g2_1 ..
theorem own_go2 (e o h : Int32) (hex : ∃ x : Int32, 0 ≤ x.toInt ∧ x.toInt < 2 ∧ f2_0 x e o = -1) : f0_101 (own_A2 0 0) h 0 2 1 o e = some (1, (own_A2 (f2_0 0 e o) (f2_0 1 e o))) := by
  unfold f0_101
  rw [own_f1 _ _ 2 0 e o (own_ln2 ..) (by decide) (own_s2_0 ..), Option.bind_some]
  rw [own_f1 _ _ 2 1 e o (own_ln2 ..) (by decide) (own_s2_1 ..), Option.bind_some]
  rw [own_f0 _ 2 2 e o (own_ln2 ..) (by decide), Option.bind_some]
  unfold f0_133
  rw [own_f0 _ 2 3 e o (own_ln2 ..) (by decide), Option.bind_some]
  rw [own_f0 _ 2 4 e o (own_ln2 ..) (by decide), Option.bind_some]
  rw [own_f0 _ 2 5 e o (own_ln2 ..) (by decide), Option.bind_some]
  unfold f0_165
  rw [own_f0 _ 2 6 e o (own_ln2 ..) (by decide), Option.bind_some]
  rw [own_f0 _ 2 7 e o (own_ln2 ..) (by decide), Option.bind_some]
  exact own_end2 _ e o h (own_ln2 ..) (own_get2 e o) hex
theorem own_ex2 (e o : Int32) (h0 : 0 < e.toInt) (h1 : e.toInt < 4) : ∃ x : Int32, 0 ≤ x.toInt ∧ x.toInt < 2 ∧ f2_0 x e o = -1 := by
  by_cases b0 : e.toInt % 2 = 0
  · by_cases b1 : e.toInt % 4294967296 / (2 ^ 1 : Nat) % 2 = 0
    · exfalso; simp only [show ((2 ^ 1 : Nat) : Int) = 2 from rfl] at *; omega
    · exact ⟨1, by decide, by decide, own_bit 1 e o 1 (by decide) (by decide) b1⟩
  · exact ⟨0, by decide, by decide, own_bit0 e o b0⟩
theorem own_one2 (y o : Int32) (h0 : 0 ≤ y.toInt) (h1 : y.toInt < 2) : ∃ x : Int32, 0 ≤ x.toInt ∧ x.toInt < 2 ∧ f2_0 x ((1 : Int32) <<< (y &&& 31)) o = -1 := by
  refine ⟨y, h0, h1, ?_⟩
  have : y.toInt = 0 ∨ y.toInt = 1 := by omega
  rcases this with h | h
  · obtain rfl : y = 0 := Int32.toInt_inj.mp (by rw [h]; decide)
    unfold f2_0 f2_3 f2_13
    rw [if_neg (by decide)]
  · obtain rfl : y = 1 := Int32.toInt_inj.mp (by rw [h]; decide)
    unfold f2_0 f2_3 f2_13
    rw [if_neg (by decide)]
theorem own_fill2 (p o h : Int32) : ∃ A, f0_73 (own_A2 0 0) p h 0 2 1 o = some (1, A) := by
  unfold f0_73 f0_83 f0_95
  have e1 : ((1 : Int32) <<< ((2 : Int32) &&& 31)) - 1 = 3 := by decide
  rw [e1]
  have m1 := c_mask p 3 2 (by decide) (by decide)
  simp only [show ((2 ^ 2 : Nat) : Int) = 4 from rfl] at m1
  have z0 : (0 : Int32).toInt = 0 := by decide
  by_cases c : (p &&& 3) = 0
  · rw [if_pos c]
    have m2 := c_mask ((p.toUInt32 >>> ((8 : Int32) &&& 31).toUInt32).toInt32) 1 1 (by decide) (by decide)
    simp only [show ((2 ^ 1 : Nat) : Int) = 2 from rfl] at m2
    exact ⟨_, own_go2 _ o h (own_one2 _ o (by omega) (by omega))⟩
  · rw [if_neg c]
    have c' : (p &&& 3).toInt ≠ 0 := fun z => c (Int32.toInt_inj.mp (by rw [z, z0]))
    exact ⟨_, own_go2 _ o h (own_ex2 _ o (by omega) (by omega))⟩
theorem own_top2 (p o h : Int32) : ∃ A, f0_52 (own_A2 0 0) p o h 0 = some (1, A) := by
  unfold f0_52
  rw [own_ln2, Option.bind_some, show (2 : Int32) - 1 = 1 from by decide]
  split
  · exact own_fill2 p 0 h
  · exact own_fill2 p o h
theorem own_mk2 : h_anew [] 0 2 2 (.int 0) = some (0, own_A2 0 0) := rfl
def own_A4 (x0 x1 x2 x3 : Int32) : AH := [(0, [.int x0, .int x1, .int x2, .int x3])]
theorem own_ln4 (x0 x1 x2 x3 : Int32) : h_alen (own_A4 x0 x1 x2 x3) 0 0 = some 4 := rfl
theorem own_s4_0 (x0 x1 x2 x3 v : Int32) : h_aset (own_A4 x0 x1 x2 x3) 0 0 0 (.int v) = some (own_A4 v x1 x2 x3) := rfl
theorem own_g4_0 (x0 x1 x2 x3 : Int32) : asI (h_aget (own_A4 x0 x1 x2 x3) 0 0 0) = some x0 := rfl
theorem own_s4_1 (x0 x1 x2 x3 v : Int32) : h_aset (own_A4 x0 x1 x2 x3) 0 0 1 (.int v) = some (own_A4 x0 v x2 x3) := rfl
theorem own_g4_1 (x0 x1 x2 x3 : Int32) : asI (h_aget (own_A4 x0 x1 x2 x3) 0 0 1) = some x1 := rfl
theorem own_s4_2 (x0 x1 x2 x3 v : Int32) : h_aset (own_A4 x0 x1 x2 x3) 0 0 2 (.int v) = some (own_A4 x0 x1 v x3) := rfl
theorem own_g4_2 (x0 x1 x2 x3 : Int32) : asI (h_aget (own_A4 x0 x1 x2 x3) 0 0 2) = some x2 := rfl
theorem own_s4_3 (x0 x1 x2 x3 v : Int32) : h_aset (own_A4 x0 x1 x2 x3) 0 0 3 (.int v) = some (own_A4 x0 x1 x2 v) := rfl
theorem own_g4_3 (x0 x1 x2 x3 : Int32) : asI (h_aget (own_A4 x0 x1 x2 x3) 0 0 3) = some x3 := rfl
theorem own_get4 (e o x : Int32) (h0 : 0 ≤ x.toInt) (h1 : x.toInt < 4) : asI (h_aget (own_A4 (f2_0 0 e o) (f2_0 1 e o) (f2_0 2 e o) (f2_0 3 e o)) 0 0 x) = some (f2_0 x e o) := by
  have : x.toInt = 0 ∨ x.toInt = 1 ∨ x.toInt = 2 ∨ x.toInt = 3 := by omega
  rcases this with h | h | h | h
  · obtain rfl : x = 0 := Int32.toInt_inj.mp (by rw [h]; decide)
    exact own_g4_0 ..
  · obtain rfl : x = 1 := Int32.toInt_inj.mp (by rw [h]; decide)
    exact own_g4_1 ..
  · obtain rfl : x = 2 := Int32.toInt_inj.mp (by rw [h]; decide)
    exact own_g4_2 ..
  · obtain rfl : x = 3 := Int32.toInt_inj.mp (by rw [h]; decide)
    exact own_g4_3 ..
theorem own_go4 (e o h : Int32) (hex : ∃ x : Int32, 0 ≤ x.toInt ∧ x.toInt < 4 ∧ f2_0 x e o = -1) : f0_101 (own_A4 0 0 0 0) h 0 4 3 o e = some (1, (own_A4 (f2_0 0 e o) (f2_0 1 e o) (f2_0 2 e o) (f2_0 3 e o))) := by
  unfold f0_101
  rw [own_f1 _ _ 4 0 e o (own_ln4 ..) (by decide) (own_s4_0 ..), Option.bind_some]
  rw [own_f1 _ _ 4 1 e o (own_ln4 ..) (by decide) (own_s4_1 ..), Option.bind_some]
  rw [own_f1 _ _ 4 2 e o (own_ln4 ..) (by decide) (own_s4_2 ..), Option.bind_some]
  unfold f0_133
  rw [own_f1 _ _ 4 3 e o (own_ln4 ..) (by decide) (own_s4_3 ..), Option.bind_some]
  rw [own_f0 _ 4 4 e o (own_ln4 ..) (by decide), Option.bind_some]
  rw [own_f0 _ 4 5 e o (own_ln4 ..) (by decide), Option.bind_some]
  unfold f0_165
  rw [own_f0 _ 4 6 e o (own_ln4 ..) (by decide), Option.bind_some]
  rw [own_f0 _ 4 7 e o (own_ln4 ..) (by decide), Option.bind_some]
  exact own_end4 _ e o h (own_ln4 ..) (own_get4 e o) hex
theorem own_ex4 (e o : Int32) (h0 : 0 < e.toInt) (h1 : e.toInt < 16) : ∃ x : Int32, 0 ≤ x.toInt ∧ x.toInt < 4 ∧ f2_0 x e o = -1 := by
  by_cases b0 : e.toInt % 2 = 0
  · by_cases b1 : e.toInt % 4294967296 / (2 ^ 1 : Nat) % 2 = 0
    · by_cases b2 : e.toInt % 4294967296 / (2 ^ 2 : Nat) % 2 = 0
      · by_cases b3 : e.toInt % 4294967296 / (2 ^ 3 : Nat) % 2 = 0
        · exfalso; simp only [show ((2 ^ 1 : Nat) : Int) = 2 from rfl, show ((2 ^ 2 : Nat) : Int) = 4 from rfl, show ((2 ^ 3 : Nat) : Int) = 8 from rfl] at *; omega
        · exact ⟨3, by decide, by decide, own_bit 3 e o 3 (by decide) (by decide) b3⟩
      · exact ⟨2, by decide, by decide, own_bit 2 e o 2 (by decide) (by decide) b2⟩
    · exact ⟨1, by decide, by decide, own_bit 1 e o 1 (by decide) (by decide) b1⟩
  · exact ⟨0, by decide, by decide, own_bit0 e o b0⟩
theorem own_one4 (y o : Int32) (h0 : 0 ≤ y.toInt) (h1 : y.toInt < 4) : ∃ x : Int32, 0 ≤ x.toInt ∧ x.toInt < 4 ∧ f2_0 x ((1 : Int32) <<< (y &&& 31)) o = -1 := by
  refine ⟨y, h0, h1, ?_⟩
  have : y.toInt = 0 ∨ y.toInt = 1 ∨ y.toInt = 2 ∨ y.toInt = 3 := by omega
  rcases this with h | h | h | h
  · obtain rfl : y = 0 := Int32.toInt_inj.mp (by rw [h]; decide)
    unfold f2_0 f2_3 f2_13
    rw [if_neg (by decide)]
  · obtain rfl : y = 1 := Int32.toInt_inj.mp (by rw [h]; decide)
    unfold f2_0 f2_3 f2_13
    rw [if_neg (by decide)]
  · obtain rfl : y = 2 := Int32.toInt_inj.mp (by rw [h]; decide)
    unfold f2_0 f2_3 f2_13
    rw [if_neg (by decide)]
  · obtain rfl : y = 3 := Int32.toInt_inj.mp (by rw [h]; decide)
    unfold f2_0 f2_3 f2_13
    rw [if_neg (by decide)]
theorem own_fill4 (p o h : Int32) : ∃ A, f0_73 (own_A4 0 0 0 0) p h 0 4 3 o = some (1, A) := by
  unfold f0_73 f0_83 f0_95
  have e1 : ((1 : Int32) <<< ((4 : Int32) &&& 31)) - 1 = 15 := by decide
  rw [e1]
  have m1 := c_mask p 15 4 (by decide) (by decide)
  simp only [show ((2 ^ 4 : Nat) : Int) = 16 from rfl] at m1
  have z0 : (0 : Int32).toInt = 0 := by decide
  by_cases c : (p &&& 15) = 0
  · rw [if_pos c]
    have m2 := c_mask ((p.toUInt32 >>> ((8 : Int32) &&& 31).toUInt32).toInt32) 3 2 (by decide) (by decide)
    simp only [show ((2 ^ 2 : Nat) : Int) = 4 from rfl] at m2
    exact ⟨_, own_go4 _ o h (own_one4 _ o (by omega) (by omega))⟩
  · rw [if_neg c]
    have c' : (p &&& 15).toInt ≠ 0 := fun z => c (Int32.toInt_inj.mp (by rw [z, z0]))
    exact ⟨_, own_go4 _ o h (own_ex4 _ o (by omega) (by omega))⟩
theorem own_top4 (p o h : Int32) : ∃ A, f0_52 (own_A4 0 0 0 0) p o h 0 = some (1, A) := by
  unfold f0_52
  rw [own_ln4, Option.bind_some, show (4 : Int32) - 1 = 3 from by decide]
  split
  · exact own_fill4 p 0 h
  · exact own_fill4 p o h
theorem own_mk4 : h_anew [] 0 4 4 (.int 0) = some (0, own_A4 0 0 0 0) := rfl
def own_A8 (x0 x1 x2 x3 x4 x5 x6 x7 : Int32) : AH := [(0, [.int x0, .int x1, .int x2, .int x3, .int x4, .int x5, .int x6, .int x7])]
theorem own_ln8 (x0 x1 x2 x3 x4 x5 x6 x7 : Int32) : h_alen (own_A8 x0 x1 x2 x3 x4 x5 x6 x7) 0 0 = some 8 := rfl
theorem own_s8_0 (x0 x1 x2 x3 x4 x5 x6 x7 v : Int32) : h_aset (own_A8 x0 x1 x2 x3 x4 x5 x6 x7) 0 0 0 (.int v) = some (own_A8 v x1 x2 x3 x4 x5 x6 x7) := rfl
theorem own_g8_0 (x0 x1 x2 x3 x4 x5 x6 x7 : Int32) : asI (h_aget (own_A8 x0 x1 x2 x3 x4 x5 x6 x7) 0 0 0) = some x0 := rfl
theorem own_s8_1 (x0 x1 x2 x3 x4 x5 x6 x7 v : Int32) : h_aset (own_A8 x0 x1 x2 x3 x4 x5 x6 x7) 0 0 1 (.int v) = some (own_A8 x0 v x2 x3 x4 x5 x6 x7) := rfl
theorem own_g8_1 (x0 x1 x2 x3 x4 x5 x6 x7 : Int32) : asI (h_aget (own_A8 x0 x1 x2 x3 x4 x5 x6 x7) 0 0 1) = some x1 := rfl
theorem own_s8_2 (x0 x1 x2 x3 x4 x5 x6 x7 v : Int32) : h_aset (own_A8 x0 x1 x2 x3 x4 x5 x6 x7) 0 0 2 (.int v) = some (own_A8 x0 x1 v x3 x4 x5 x6 x7) := rfl
theorem own_g8_2 (x0 x1 x2 x3 x4 x5 x6 x7 : Int32) : asI (h_aget (own_A8 x0 x1 x2 x3 x4 x5 x6 x7) 0 0 2) = some x2 := rfl
theorem own_s8_3 (x0 x1 x2 x3 x4 x5 x6 x7 v : Int32) : h_aset (own_A8 x0 x1 x2 x3 x4 x5 x6 x7) 0 0 3 (.int v) = some (own_A8 x0 x1 x2 v x4 x5 x6 x7) := rfl
theorem own_g8_3 (x0 x1 x2 x3 x4 x5 x6 x7 : Int32) : asI (h_aget (own_A8 x0 x1 x2 x3 x4 x5 x6 x7) 0 0 3) = some x3 := rfl
theorem own_s8_4 (x0 x1 x2 x3 x4 x5 x6 x7 v : Int32) : h_aset (own_A8 x0 x1 x2 x3 x4 x5 x6 x7) 0 0 4 (.int v) = some (own_A8 x0 x1 x2 x3 v x5 x6 x7) := rfl
theorem own_g8_4 (x0 x1 x2 x3 x4 x5 x6 x7 : Int32) : asI (h_aget (own_A8 x0 x1 x2 x3 x4 x5 x6 x7) 0 0 4) = some x4 := rfl
theorem own_s8_5 (x0 x1 x2 x3 x4 x5 x6 x7 v : Int32) : h_aset (own_A8 x0 x1 x2 x3 x4 x5 x6 x7) 0 0 5 (.int v) = some (own_A8 x0 x1 x2 x3 x4 v x6 x7) := rfl
theorem own_g8_5 (x0 x1 x2 x3 x4 x5 x6 x7 : Int32) : asI (h_aget (own_A8 x0 x1 x2 x3 x4 x5 x6 x7) 0 0 5) = some x5 := rfl
theorem own_s8_6 (x0 x1 x2 x3 x4 x5 x6 x7 v : Int32) : h_aset (own_A8 x0 x1 x2 x3 x4 x5 x6 x7) 0 0 6 (.int v) = some (own_A8 x0 x1 x2 x3 x4 x5 v x7) := rfl
theorem own_g8_6 (x0 x1 x2 x3 x4 x5 x6 x7 : Int32) : asI (h_aget (own_A8 x0 x1 x2 x3 x4 x5 x6 x7) 0 0 6) = some x6 := rfl
theorem own_s8_7 (x0 x1 x2 x3 x4 x5 x6 x7 v : Int32) : h_aset (own_A8 x0 x1 x2 x3 x4 x5 x6 x7) 0 0 7 (.int v) = some (own_A8 x0 x1 x2 x3 x4 x5 x6 v) := rfl
theorem own_g8_7 (x0 x1 x2 x3 x4 x5 x6 x7 : Int32) : asI (h_aget (own_A8 x0 x1 x2 x3 x4 x5 x6 x7) 0 0 7) = some x7 := rfl
theorem own_get8 (e o x : Int32) (h0 : 0 ≤ x.toInt) (h1 : x.toInt < 8) : asI (h_aget (own_A8 (f2_0 0 e o) (f2_0 1 e o) (f2_0 2 e o) (f2_0 3 e o) (f2_0 4 e o) (f2_0 5 e o) (f2_0 6 e o) (f2_0 7 e o)) 0 0 x) = some (f2_0 x e o) := by
  have : x.toInt = 0 ∨ x.toInt = 1 ∨ x.toInt = 2 ∨ x.toInt = 3 ∨ x.toInt = 4 ∨ x.toInt = 5 ∨ x.toInt = 6 ∨ x.toInt = 7 := by omega
  rcases this with h | h | h | h | h | h | h | h
  · obtain rfl : x = 0 := Int32.toInt_inj.mp (by rw [h]; decide)
    exact own_g8_0 ..
  · obtain rfl : x = 1 := Int32.toInt_inj.mp (by rw [h]; decide)
    exact own_g8_1 ..
  · obtain rfl : x = 2 := Int32.toInt_inj.mp (by rw [h]; decide)
    exact own_g8_2 ..
  · obtain rfl : x = 3 := Int32.toInt_inj.mp (by rw [h]; decide)
    exact own_g8_3 ..
  · obtain rfl : x = 4 := Int32.toInt_inj.mp (by rw [h]; decide)
    exact own_g8_4 ..
  · obtain rfl : x = 5 := Int32.toInt_inj.mp (by rw [h]; decide)
    exact own_g8_5 ..
  · obtain rfl : x = 6 := Int32.toInt_inj.mp (by rw [h]; decide)
    exact own_g8_6 ..
  · obtain rfl : x = 7 := Int32.toInt_inj.mp (by rw [h]; decide)
    exact own_g8_7 ..
theorem own_go8 (e o h : Int32) (hex : ∃ x : Int32, 0 ≤ x.toInt ∧ x.toInt < 8 ∧ f2_0 x e o = -1) : f0_101 (own_A8 0 0 0 0 0 0 0 0) h 0 8 7 o e = some (1, (own_A8 (f2_0 0 e o) (f2_0 1 e o) (f2_0 2 e o) (f2_0 3 e o) (f2_0 4 e o) (f2_0 5 e o) (f2_0 6 e o) (f2_0 7 e o))) := by
  unfold f0_101
  rw [own_f1 _ _ 8 0 e o (own_ln8 ..) (by decide) (own_s8_0 ..), Option.bind_some]
  rw [own_f1 _ _ 8 1 e o (own_ln8 ..) (by decide) (own_s8_1 ..), Option.bind_some]
  rw [own_f1 _ _ 8 2 e o (own_ln8 ..) (by decide) (own_s8_2 ..), Option.bind_some]
  unfold f0_133
  rw [own_f1 _ _ 8 3 e o (own_ln8 ..) (by decide) (own_s8_3 ..), Option.bind_some]
  rw [own_f1 _ _ 8 4 e o (own_ln8 ..) (by decide) (own_s8_4 ..), Option.bind_some]
  rw [own_f1 _ _ 8 5 e o (own_ln8 ..) (by decide) (own_s8_5 ..), Option.bind_some]
  unfold f0_165
  rw [own_f1 _ _ 8 6 e o (own_ln8 ..) (by decide) (own_s8_6 ..), Option.bind_some]
  rw [own_f1 _ _ 8 7 e o (own_ln8 ..) (by decide) (own_s8_7 ..), Option.bind_some]
  exact own_end8 _ e o h (own_ln8 ..) (own_get8 e o) hex
theorem own_ex8 (e o : Int32) (h0 : 0 < e.toInt) (h1 : e.toInt < 256) : ∃ x : Int32, 0 ≤ x.toInt ∧ x.toInt < 8 ∧ f2_0 x e o = -1 := by
  by_cases b0 : e.toInt % 2 = 0
  · by_cases b1 : e.toInt % 4294967296 / (2 ^ 1 : Nat) % 2 = 0
    · by_cases b2 : e.toInt % 4294967296 / (2 ^ 2 : Nat) % 2 = 0
      · by_cases b3 : e.toInt % 4294967296 / (2 ^ 3 : Nat) % 2 = 0
        · by_cases b4 : e.toInt % 4294967296 / (2 ^ 4 : Nat) % 2 = 0
          · by_cases b5 : e.toInt % 4294967296 / (2 ^ 5 : Nat) % 2 = 0
            · by_cases b6 : e.toInt % 4294967296 / (2 ^ 6 : Nat) % 2 = 0
              · by_cases b7 : e.toInt % 4294967296 / (2 ^ 7 : Nat) % 2 = 0
                · exfalso; simp only [show ((2 ^ 1 : Nat) : Int) = 2 from rfl, show ((2 ^ 2 : Nat) : Int) = 4 from rfl, show ((2 ^ 3 : Nat) : Int) = 8 from rfl, show ((2 ^ 4 : Nat) : Int) = 16 from rfl, show ((2 ^ 5 : Nat) : Int) = 32 from rfl, show ((2 ^ 6 : Nat) : Int) = 64 from rfl, show ((2 ^ 7 : Nat) : Int) = 128 from rfl] at *; omega
                · exact ⟨7, by decide, by decide, own_bit 7 e o 7 (by decide) (by decide) b7⟩
              · exact ⟨6, by decide, by decide, own_bit 6 e o 6 (by decide) (by decide) b6⟩
            · exact ⟨5, by decide, by decide, own_bit 5 e o 5 (by decide) (by decide) b5⟩
          · exact ⟨4, by decide, by decide, own_bit 4 e o 4 (by decide) (by decide) b4⟩
        · exact ⟨3, by decide, by decide, own_bit 3 e o 3 (by decide) (by decide) b3⟩
      · exact ⟨2, by decide, by decide, own_bit 2 e o 2 (by decide) (by decide) b2⟩
    · exact ⟨1, by decide, by decide, own_bit 1 e o 1 (by decide) (by decide) b1⟩
  · exact ⟨0, by decide, by decide, own_bit0 e o b0⟩
theorem own_one8 (y o : Int32) (h0 : 0 ≤ y.toInt) (h1 : y.toInt < 8) : ∃ x : Int32, 0 ≤ x.toInt ∧ x.toInt < 8 ∧ f2_0 x ((1 : Int32) <<< (y &&& 31)) o = -1 := by
  refine ⟨y, h0, h1, ?_⟩
  have : y.toInt = 0 ∨ y.toInt = 1 ∨ y.toInt = 2 ∨ y.toInt = 3 ∨ y.toInt = 4 ∨ y.toInt = 5 ∨ y.toInt = 6 ∨ y.toInt = 7 := by omega
  rcases this with h | h | h | h | h | h | h | h
  · obtain rfl : y = 0 := Int32.toInt_inj.mp (by rw [h]; decide)
    unfold f2_0 f2_3 f2_13
    rw [if_neg (by decide)]
  · obtain rfl : y = 1 := Int32.toInt_inj.mp (by rw [h]; decide)
    unfold f2_0 f2_3 f2_13
    rw [if_neg (by decide)]
  · obtain rfl : y = 2 := Int32.toInt_inj.mp (by rw [h]; decide)
    unfold f2_0 f2_3 f2_13
    rw [if_neg (by decide)]
  · obtain rfl : y = 3 := Int32.toInt_inj.mp (by rw [h]; decide)
    unfold f2_0 f2_3 f2_13
    rw [if_neg (by decide)]
  · obtain rfl : y = 4 := Int32.toInt_inj.mp (by rw [h]; decide)
    unfold f2_0 f2_3 f2_13
    rw [if_neg (by decide)]
  · obtain rfl : y = 5 := Int32.toInt_inj.mp (by rw [h]; decide)
    unfold f2_0 f2_3 f2_13
    rw [if_neg (by decide)]
  · obtain rfl : y = 6 := Int32.toInt_inj.mp (by rw [h]; decide)
    unfold f2_0 f2_3 f2_13
    rw [if_neg (by decide)]
  · obtain rfl : y = 7 := Int32.toInt_inj.mp (by rw [h]; decide)
    unfold f2_0 f2_3 f2_13
    rw [if_neg (by decide)]
theorem own_fill8 (p o h : Int32) : ∃ A, f0_73 (own_A8 0 0 0 0 0 0 0 0) p h 0 8 7 o = some (1, A) := by
  unfold f0_73 f0_83 f0_95
  have e1 : ((1 : Int32) <<< ((8 : Int32) &&& 31)) - 1 = 255 := by decide
  rw [e1]
  have m1 := c_mask p 255 8 (by decide) (by decide)
  simp only [show ((2 ^ 8 : Nat) : Int) = 256 from rfl] at m1
  have z0 : (0 : Int32).toInt = 0 := by decide
  by_cases c : (p &&& 255) = 0
  · rw [if_pos c]
    have m2 := c_mask ((p.toUInt32 >>> ((8 : Int32) &&& 31).toUInt32).toInt32) 7 3 (by decide) (by decide)
    simp only [show ((2 ^ 3 : Nat) : Int) = 8 from rfl] at m2
    exact ⟨_, own_go8 _ o h (own_one8 _ o (by omega) (by omega))⟩
  · rw [if_neg c]
    have c' : (p &&& 255).toInt ≠ 0 := fun z => c (Int32.toInt_inj.mp (by rw [z, z0]))
    exact ⟨_, own_go8 _ o h (own_ex8 _ o (by omega) (by omega))⟩
theorem own_top8 (p o h : Int32) : ∃ A, f0_52 (own_A8 0 0 0 0 0 0 0 0) p o h 0 = some (1, A) := by
  unfold f0_52
  rw [own_ln8, Option.bind_some, show (8 : Int32) - 1 = 7 from by decide]
  split
  · exact own_fill8 p 0 h
  · exact own_fill8 p o h
theorem own_mk8 : h_anew [] 0 8 8 (.int 0) = some (0, own_A8 0 0 0 0 0 0 0 0) := rfl
theorem own_plain (i0 i1 i2 i3 : Int32) : ∃ A, f0_0 [] i0 i1 i2 i3 = some (1, A) := by
  unfold f0_0
  split
  · rw [own_mk1, Option.bind_some]; exact own_top1 i1 i2 i3
  split
  · rw [own_mk2, Option.bind_some]; exact own_top2 i1 i2 i3
  split
  · rw [own_mk4, Option.bind_some]; exact own_top4 i1 i2 i3
  · rw [own_mk8, Option.bind_some]; exact own_top8 i1 i2 i3
set_option maxRecDepth 65536 in
set_option maxHeartbeats 4000000 in
theorem comes_1 {Post : Tables → Env → Array Value → State → Outcome → State → Prop} (hpost : ∀ tb e args s v u, (limb_1_1.after args s (.returned v) u = true ∧ limb_1_2.after args s (.returned v) u = true) → FrameEnd s (.returned v) u (Jvm.fieldLocs frame_1_writes args s ++ Jvm.arrayLocs frame_1_arrays args s ++ Jvm.staticLocs frame_1_statics s) 16 128 → Post tb e args s (.returned v) u) :
    ArmFor flags0 classFile x code maxLocals ret World_1 tables_1 room_1 Calls_1 rest_1 Pre_1 Post := by
  intro l hfl _ _ p e ha hc hk s m args below hf hA hF happ hP
  obtain ⟨hcalls, hrest, hpre⟩ := hP
  obtain ⟨-, -, -, hnamed, -, -, -, hat⟩ := (Spec.applies_iff hf).mp happ
  obtain ⟨hg, hn⟩ := and_e (Cond.before_iff.mp (show (Jvm.Cond.and given_1 narrow_1).before args s = true from hpre))
  obtain ⟨b0, hg⟩ := and_e hg
  obtain ⟨b1, hg⟩ := and_e hg
  obtain ⟨b2, hg⟩ := and_e hg
  obtain ⟨b3, hg⟩ := and_e hg
  have b4 := hg
  obtain ⟨w0, w1, w2, w3, rfl⟩ : ∃ w0 w1 w2 w3 : Value, args = #[w0, w1, w2, w3] := by
    have hs : args.size = 4 := by simpa [Cond.value, given_1] using b0
    obtain ⟨L⟩ := args
    match L, hs with
    | [w0, w1, w2, w3], _ => exact ⟨w0, w1, w2, w3, rfl⟩
  have hw := fun d (hd : d ∈ tables_1) => atoms_spec (ws := Jvm.Cond.code x code maxLocals ret :: tables_1) hat d (List.mem_cons_of_mem _ hd)
  obtain ⟨i0, ei0⟩ := is_v b1
  obtain rfl : w0 = (.int i0) := Option.some.inj ei0
  obtain ⟨i1, ei1⟩ := is_v b2
  obtain rfl : w1 = (.int i1) := Option.some.inj ei1
  obtain ⟨i2, ei2⟩ := is_v b3
  obtain rfl : w2 = (.int i2) := Option.some.inj ei2
  obtain ⟨i3, ei3⟩ := is_v b4
  obtain rfl : w3 = (.int i3) := Option.some.inj ei3
  have RA : Rep own_D s s.heap.size s.heap [] := ⟨rfl, fun i t vs e => by simp at e⟩
  obtain ⟨AE, hv⟩ := own_plain i0 i1 i2 i3
  obtain ⟨n, o, h1, h2, h3, v, L, rfl, ⟨rfl, N, -⟩, hq⟩ := rm0 (l := l) (n0 := s.heap.size) hw [] i0 i1 i2 i3 hv tables_1 s.heap RA p e ha hc hk s m _ below hf ((Spec.applies_iff_loose hf).mp happ).1 ⟨rfl, State.Warmed39.refl s, rfl⟩ trivial
  refine ⟨n, _, h1, h2, h3, hpost _ _ _ _ _ _ ⟨Cond.after_iff.mpr rfl, Cond.after_iff.mpr (eq_i res_at (Term.int_eval (1)) rfl)⟩ ⟨hq.1, hq.2.1, (hq.2.2.sift fun y hy => Or.inr (N y hy)).mono (by decide) (by decide)⟩⟩
theorem main_1_1 : Claimed_1_1 := comes_1 fun _ _ _ _ _ _ h hF => ⟨h.1, hF⟩
theorem main_1_2 : Claimed_1_2 := comes_1 fun _ _ _ _ _ _ h hF => ⟨h.2, hF⟩
end Jvm.Pilot.@@N@@
namespace Jvm.Pilot.@@N@@
open Jvm Jvm.ClassFile Sem Op Lib Jvm.Free Jvm.Stand Jvm.Pilot.@@N@@.Jvm.D
/-! MADE BY PROGRAM (witnessworld.py) out of the Statement's table words and the real class files: 9 classes; the members and pool entries that the words name. The judged class is class 1, her method 1. -/
namespace start1
open Jvm.ClassFile
def u (s : String) : CpInfo := .utf8 (stringToUtf16 s)
/-- a pool by its gaps: so many unusable entries, then the entry; so many at the end -/
def gap : Nat → List CpInfo → List CpInfo
  | 0, r => r
  | n + 1, r => .unusable :: gap n r
def poolList (es : List (Nat × CpInfo)) (last : Nat) : List CpInfo := es.foldr (fun e r => gap e.1 (e.2 :: r)) (gap last [])
def pool (es : List (Nat × CpInfo)) (last : Nat) : Array CpInfo := ⟨poolList es last⟩
def fileOf (pool : Array CpInfo) (this : Nat) (attrs : Array Attribute := #[]) (ms : Array MethodInfo := #[]) (fl : Nat := 33) (sup : Nat := 0) (ifs : Array Nat := #[]) (fds : Array FieldInfo := #[]) : ClassFile where
  minorVersion := 0
  majorVersion := 65
  constantPool := pool
  accessFlags := fl
  thisClass := this
  superClass := sup
  interfaces := ifs
  fields := fds
  methods := ms
  attributes := attrs
def plain (name : String) (sup : Option ClassId) : Class where
  name := name
  kind := .ordinary
  loader := none
  accessFlags := 33
  super := sup
  interfaces := #[]
  cf := none
  fields := #[]
  methods := #[]
  instanceTypes := #[]
  staticTypes := #[]
  resolved := #[]
  callSites := []
  init := .initialized
  statics := none
  mirror := none

def pool0 : Array CpInfo := pool [(5, u "<init>"), (0, u "()V"), (1, .class_ 10), (1, u "java/lang/Object")] 113

def k0m0 : Method := { name := "<init>", desc := "()V", sig := { parameters := [], returnType := none }, accessFlags := 1, code := none }
/-- java/lang/Object -/
def k0 : Class := { plain "java/lang/Object" none with
  accessFlags := 33
  interfaces := #[]
  cf := some (fileOf pool0 8 #[] #[{ accessFlags := 1, nameIndex := 5, descriptorIndex := 6, attributes := #[] }] 33 0 #[] #[])
  fields := #[]
  methods := #[k0m0]
  instanceTypes := #[]
  staticTypes := #[]
  resolved := Array.replicate 124 none
  statics := none }

def pool1 : Array CpInfo := pool [(2, .class_ 4), (1, u "java/lang/Object"), (0, u "<init>"), (0, u "()V"), (0, .class_ 8), (0, u "com/example/thabiti/thabiti/core/Hashing"), (0, .methodref 10 11), (0, .class_ 12), (0, .nameAndType 13 14), (0, u "com/example/thabiti/thabiti/core/HashingFreePinLaw"), (0, u "fill"), (0, u "([IIII)V"), (0, .methodref 7 16), (0, .nameAndType 17 18), (0, u "free"), (0, u "([II)I"), (0, .methodref 10 20), (0, .nameAndType 21 22), (0, u "ok"), (0, u "([IIIIII)Z"), (0, .methodref 10 24), (0, .nameAndType 25 26), (0, u "expected"), (0, u "(III)I"), (2, u "law"), (0, u "(IIII)Z")] 5

def k1m0 : Method := { name := "<init>", desc := "()V", sig := { parameters := [], returnType := none }, accessFlags := 1, code := none }
def k1c1 : Code := { maxStack := 6, maxLocals := 13, code := code, exceptionTable := #[], attributes := #[] }
def k1m1 : Method := { name := "law", desc := "(IIII)Z", sig := { parameters := [.int, .int, .int, .int], returnType := some .boolean }, accessFlags := 9, code := some k1c1 }
def k1c2 : Code := { maxStack := 2, maxLocals := 3, code := method_3_code, exceptionTable := #[], attributes := #[] }
def k1m2 : Method := { name := "expected", desc := "(III)I", sig := { parameters := [.int, .int, .int], returnType := some .int }, accessFlags := 10, code := some k1c2 }
def k1c3 : Code := { maxStack := 5, maxLocals := 4, code := method_4_code, exceptionTable := #[], attributes := #[] }
def k1m3 : Method := { name := "fill", desc := "([IIII)V", sig := { parameters := [(.array .int), .int, .int, .int], returnType := none }, accessFlags := 10, code := some k1c3 }
def k1c4 : Code := { maxStack := 3, maxLocals := 8, code := method_5_code, exceptionTable := #[], attributes := #[] }
def k1m4 : Method := { name := "ok", desc := "([IIIIII)Z", sig := { parameters := [(.array .int), .int, .int, .int, .int, .int], returnType := some .boolean }, accessFlags := 10, code := some k1c4 }
/-- com/example/thabiti/thabiti/core/HashingFreePinLaw -/
def k1 : Class := { plain "com/example/thabiti/thabiti/core/HashingFreePinLaw" (some 0) with
  accessFlags := 49
  interfaces := #[]
  cf := some (fileOf pool1 10 #[] #[{ accessFlags := 1, nameIndex := 5, descriptorIndex := 6, attributes := #[] }, { accessFlags := 9, nameIndex := 29, descriptorIndex := 30, attributes := #[] }, { accessFlags := 10, nameIndex := 25, descriptorIndex := 26, attributes := #[] }, { accessFlags := 10, nameIndex := 13, descriptorIndex := 14, attributes := #[] }, { accessFlags := 10, nameIndex := 21, descriptorIndex := 22, attributes := #[] }] 49 2 #[] #[])
  fields := #[]
  methods := #[k1m0, k1m1, k1m2, k1m3, k1m4]
  instanceTypes := #[]
  staticTypes := #[]
  resolved := Array.replicate 36 none
  statics := none }

def pool2 : Array CpInfo := pool [(2, .class_ 4), (1, u "java/lang/Object"), (0, u "<init>"), (0, u "()V"), (1, .class_ 9), (0, u "com/example/thabiti/thabiti/core/Hashing"), (6, u "EMPTY"), (0, u "I"), (6, u "free"), (0, u "([II)I")] 5

def k2m0 : Method := { name := "<init>", desc := "()V", sig := { parameters := [], returnType := none }, accessFlags := 2, code := none }
def k2c1 : Code := { maxStack := 2, maxLocals := 4, code := prog_16_method_3_code, exceptionTable := #[], attributes := #[] }
def k2m1 : Method := { name := "free", desc := "([II)I", sig := { parameters := [(.array .int), .int], returnType := some .int }, accessFlags := 8, code := some k2c1 }
/-- com/example/thabiti/thabiti/core/Hashing -/
def k2 : Class := { plain "com/example/thabiti/thabiti/core/Hashing" (some 0) with
  accessFlags := 32
  interfaces := #[]
  cf := some (fileOf pool2 8 #[] #[{ accessFlags := 2, nameIndex := 5, descriptorIndex := 6, attributes := #[] }, { accessFlags := 8, nameIndex := 24, descriptorIndex := 25, attributes := #[] }] 32 2 #[] #[{ accessFlags := 24, nameIndex := 16, descriptorIndex := 17, attributes := #[] }])
  fields := #[{ name := "EMPTY", type := .int, accessFlags := 24, slot := 0, constantValue := 0 }]
  methods := #[k2m0, k2m1]
  instanceTypes := #[]
  staticTypes := #[.int]
  resolved := Array.replicate 31 none
  statics := none }

def pool3 : Array CpInfo := pool [(1, u "java/lang/Cloneable"), (0, .class_ 1), (0, u "java/lang/Object"), (0, .class_ 3)] 3

/-- java/lang/Cloneable -/
def k3 : Class := { plain "java/lang/Cloneable" (some 0) with
  accessFlags := 1537
  interfaces := #[]
  cf := some (fileOf pool3 2 #[] #[] 1537 4 #[] #[])
  fields := #[]
  methods := #[]
  instanceTypes := #[]
  staticTypes := #[]
  resolved := Array.replicate 8 none
  statics := none }

def pool4 : Array CpInfo := pool [(1, u "java/io/Serializable"), (0, .class_ 1), (0, u "java/lang/Object"), (0, .class_ 3)] 3

/-- java/io/Serializable -/
def k4 : Class := { plain "java/io/Serializable" (some 0) with
  accessFlags := 1537
  interfaces := #[]
  cf := some (fileOf pool4 2 #[] #[] 1537 4 #[] #[])
  fields := #[]
  methods := #[]
  instanceTypes := #[]
  staticTypes := #[]
  resolved := Array.replicate 8 none
  statics := none }

/-- the primitive byte -/
def k5 : Class := { plain "byte" none with kind := .primitive 'B', accessFlags := 0x411 }
/-- [B -/
def k6 : Class := { plain "[B" (some 0) with kind := .array 5 .byte, interfaces := #[3, 4], accessFlags := 1041 }

/-- the primitive int -/
def k7 : Class := { plain "int" none with kind := .primitive 'I', accessFlags := 0x411 }
/-- [I -/
def k8 : Class := { plain "[I" (some 0) with kind := .array 7 .int, interfaces := #[3, 4], accessFlags := 1041 }

def heap : Heap := #[]
def classes : Array Class := #[k0, k1, k2, k3, k4, k5, k6, k7, k8]
def interned : List (Array UInt16 × Addr) := []
def slotsUsed : Nat := 0
def theMethod : MethodId := ⟨1, 1⟩
def args0 : Array Value := #[.int 5, .int 5, .int 5, .int 5]
def aboutOver (below : List Frame) : State where
  vm := { classes := classes, interned := interned.toArray }
  heap := heap
  slotsUsed := slotsUsed
  threads := #[{ frames := .invoking theMethod args0 :: below }]
def below0 : List Frame := [.native { method := ⟨0, 0⟩, args := #[] }]
def about1 : State := aboutOver below0
def p0 : Program := .bare "" "" ""
def e0 : Env := launch0.env 0 0 0
theorem w_frames : about1.frames = Frame.invoking theMethod args0 :: below0 := rfl
set_option maxRecDepth 65536 in
theorem w_args : argsFit about1.vm theMethod args0 = true := by decide +kernel
set_option maxRecDepth 65536 in
theorem w_heap : heapFits about1 = true := by decide +kernel
set_option maxRecDepth 65536 in
theorem w_runnable : about1.curStatus? = some .runnable := by decide +kernel
set_option maxRecDepth 65536 in
theorem w_alone : about1.alone = true := by decide +kernel
set_option maxRecDepth 65536 in
theorem w_named : about1.methodNamed? x = some theMethod := by decide +kernel
set_option maxRecDepth 65536 in
theorem w_hears : about1.hears theMethod below0 = true := by decide +kernel
set_option maxRecDepth 65536 in
theorem w_ripe : about1.ripe theMethod args0 below0 = true := by decide +kernel
theorem w_running : about1.status = .running := rfl
set_option maxRecDepth 65536 in
theorem w_room : about1.hasRoom e0.platform room_1 = true :=
  launch0.hasRoom_least _ room_1 (by decide +kernel) (by decide +kernel) (by decide +kernel) (by decide +kernel) (by decide +kernel) (by decide +kernel)
theorem allAtoms_all (ts : List Jvm.Cond) (a : Array Jvm.Value) (st : Jvm.State) : (allAtoms ts).before a st = ts.all (fun c => c.before a st) := by
  induction ts with
  | nil => rfl
  | cons c t ih =>
    show (Jvm.Cond.and c (allAtoms t)).before a st = _
    rw [Jvm.Cond.before_and, ih, List.all_cons]
def words1 : List Jvm.Cond := Jvm.Cond.code x code maxLocals ret :: tables_1
/-- a 'code' word, met by the world's own term for the bytes: nothing is compared byte by byte -/
theorem code_word {y : MethodName} {bytes : ByteArray} {mx : Nat} {rt : Option FieldType} {a : Array Value} {s : State} {m : MethodId} {meth : Method} {c : Code} (h1 : s.methodNamed? y = some m) (h2 : s.vm.method? m = some meth) (h3 : meth.code = some c) (h4 : c.code = bytes)
    (h5 : (c.maxLocals == mx && c.exceptionTable.isEmpty && decide (c.maxStack ≤ mostOperands) && decide (meth.sig.returnType = rt) && !meth.locks && decide (parseMethodDescriptor y.desc = some meth.sig)) = true) : (Jvm.Cond.code y bytes mx rt).before a s = true := by
  simp only [Bool.and_eq_true, beq_iff_eq, Bool.not_eq_true', decide_eq_true_eq] at h5
  obtain ⟨⟨⟨⟨⟨g1, g2⟩, g3⟩, g4⟩, g5⟩, g6⟩ := h5
  simp [Cond.before, Cond.holds, Cond.value, h1, h2, h3, h4, g1, g2, g3, g4, g5, g6]
def isCode : Jvm.Cond → Bool
  | .code _ _ _ _ => true
  | _ => false
theorem all_split {L : List Jvm.Cond} {P : Jvm.Cond → Bool} (h1 : L.all (fun c => isCode c || P c) = true) (h2 : ∀ c ∈ L.filter isCode, P c = true) : L.all P = true := by
  refine List.all_eq_true.mpr fun c hc => ?_
  have h := List.all_eq_true.mp h1 c hc
  rcases Bool.eq_false_or_eq_true (isCode c) with hi | hi
  · exact h2 c (List.mem_filter.mpr ⟨hc, hi⟩)
  · simpa [hi] using h
set_option maxRecDepth 65536 in
theorem w_c0 : (Jvm.Cond.code x code maxLocals ret).before args0 about1 = true := code_word (m := ⟨1, 1⟩) (meth := k1m1) (c := k1c1) (by decide +kernel) rfl rfl rfl (by decide +kernel)
set_option maxRecDepth 65536 in
theorem w_c1 : (Jvm.Cond.code ({ cls := "com/example/thabiti/thabiti/core/HashingFreePinLaw", name := "fill", desc := "([IIII)V" } : Jvm.MethodName) method_4_code (4 : Nat) (Option.none : Option Jvm.ClassFile.FieldType)).before args0 about1 = true := code_word (m := ⟨1, 3⟩) (meth := k1m3) (c := k1c3) (by decide +kernel) rfl rfl rfl (by decide +kernel)
set_option maxRecDepth 65536 in
theorem w_c2 : (Jvm.Cond.code ({ cls := "com/example/thabiti/thabiti/core/HashingFreePinLaw", name := "expected", desc := "(III)I" } : Jvm.MethodName) method_3_code (3 : Nat) (Option.some Jvm.ClassFile.FieldType.int)).before args0 about1 = true := code_word (m := ⟨1, 2⟩) (meth := k1m2) (c := k1c2) (by decide +kernel) rfl rfl rfl (by decide +kernel)
set_option maxRecDepth 65536 in
theorem w_c3 : (Jvm.Cond.code ({ cls := "com/example/thabiti/thabiti/core/Hashing", name := "free", desc := "([II)I" } : Jvm.MethodName) prog_16_method_3_code (4 : Nat) (Option.some Jvm.ClassFile.FieldType.int)).before args0 about1 = true := code_word (m := ⟨2, 1⟩) (meth := k2m1) (c := k2c1) (by decide +kernel) rfl rfl rfl (by decide +kernel)
set_option maxRecDepth 65536 in
theorem w_c4 : (Jvm.Cond.code ({ cls := "com/example/thabiti/thabiti/core/HashingFreePinLaw", name := "ok", desc := "([IIIIII)Z" } : Jvm.MethodName) method_5_code (8 : Nat) (Option.some Jvm.ClassFile.FieldType.boolean)).before args0 about1 = true := code_word (m := ⟨1, 4⟩) (meth := k1m4) (c := k1c4) (by decide +kernel) rfl rfl rfl (by decide +kernel)
def codes1 : List Jvm.Cond := [Jvm.Cond.code x code maxLocals ret, Jvm.Cond.code ({ cls := "com/example/thabiti/thabiti/core/HashingFreePinLaw", name := "fill", desc := "([IIII)V" } : Jvm.MethodName) method_4_code (4 : Nat) (Option.none : Option Jvm.ClassFile.FieldType), Jvm.Cond.code ({ cls := "com/example/thabiti/thabiti/core/HashingFreePinLaw", name := "expected", desc := "(III)I" } : Jvm.MethodName) method_3_code (3 : Nat) (Option.some Jvm.ClassFile.FieldType.int), Jvm.Cond.code ({ cls := "com/example/thabiti/thabiti/core/Hashing", name := "free", desc := "([II)I" } : Jvm.MethodName) prog_16_method_3_code (4 : Nat) (Option.some Jvm.ClassFile.FieldType.int), Jvm.Cond.code ({ cls := "com/example/thabiti/thabiti/core/HashingFreePinLaw", name := "ok", desc := "([IIIIII)Z" } : Jvm.MethodName) method_5_code (8 : Nat) (Option.some Jvm.ClassFile.FieldType.boolean)]
set_option maxRecDepth 65536 in
theorem codes_eq : words1.filter isCode = codes1 := rfl
theorem w_codes : ∀ c ∈ words1.filter isCode, c.before args0 about1 = true := by
  rw [codes_eq]
  intro c hc
  simp only [codes1, List.mem_cons, List.not_mem_nil, or_false] at hc
  rcases hc with rfl | rfl | rfl | rfl | rfl
  · exact w_c0
  · exact w_c1
  · exact w_c2
  · exact w_c3
  · exact w_c4
set_option maxRecDepth 65536 in
theorem w_t1 : words1.all (fun c => isCode c || c.before args0 about1) = true := by decide +kernel
theorem w_tables : (allAtoms (Jvm.Cond.code x code maxLocals ret :: tables_1)).before args0 about1 = true := by
  rw [allAtoms_all]
  show words1.all (fun c => c.before args0 about1) = true
  refine all_split ?_ w_codes
  rw [w_t1]
set_option maxRecDepth 65536 in
theorem w_case : (Jvm.Cond.and given_1 narrow_1).before args0 about1 = true := by decide +kernel
theorem w_applies : (headSpec (Jvm.Cond.code x code maxLocals ret :: tables_1) room_1).applies x e0.platform about1 = true :=
  (Spec.applies_iff w_frames).mpr ⟨w_running, w_runnable, w_alone, w_named, w_hears, w_ripe, w_room, w_tables⟩
theorem atStart : AtStart classFile x code maxLocals ret World_1 tables_1 room_1 Calls_1 rest_1 Pre_1 launch0 p0 e0 about1 theMethod args0 below0 :=
  ⟨lists_1, trivial, launch0.admits_env _ _ _, launch0.least_env, fairChoices_fair.cas, fairChoices_fair.clock, w_frames, w_args, w_heap, w_applies, trivial, trivial, w_case⟩
end start1
theorem witness_1 : WitnessClaimed_1 := ⟨start1.p0, start1.e0, start1.about1, start1.theMethod, start1.args0, start1.below0, start1.atStart⟩
end Jvm.Pilot.@@N@@
