import JvmDerived
import JvmDerived.Pilot.@@N@@Statement
import JvmDerived.Pilot.@@N@@Code
set_option linter.unusedVariables false
set_option linter.unusedSimpArgs false
namespace Jvm.OwnKit
open Sem ClassFile Op Lib Jvm.Stand Jvm.Free Jvm.LawKit Jvm.RoadKit
/-! my own layer: an abstract heap of the objects and arrays that the law makes, and a run that goes on to its end -/
abbrev AH : Type := List (Nat × List Value)
abbrev Dic : Type := Nat → String × List (String × String × String)
def lf (n0 : Nat) : Value → Value
  | .ref i => .ref (n0 + i)
  | v => v
def aty : Nat → FieldType
  | 0 => .int
  | 1 => .char
  | 2 => .byte
  | 3 => .long
  | 4 => .boolean
  | _ => .short
def asI : Option Value → Option Int32
  | some (.int x) => some x
  | _ => none
def asJ : Option Value → Option Int64
  | some (.long x) => some x
  | _ => none
def asR : Option Value → Option Nat
  | some (.ref x) => some x
  | _ => none
theorem asI_s {o : Option Value} {x : Int32} (h : asI o = some x) : o = some (.int x) := by
  unfold asI at h; split at h <;> simp_all
theorem asJ_s {o : Option Value} {x : Int64} (h : asJ o = some x) : o = some (.long x) := by
  unfold asJ at h; split at h <;> simp_all
theorem asR_s {o : Option Value} {x : Nat} (h : asR o = some x) : o = some (.ref x) := by
  unfold asR at h; split at h <;> simp_all
/-- a field, a component: read, written -/
def h_fget (A : AH) (t a k : Nat) : Option Value := match A[a]? with
  | some (t', vs) => if t' = t then vs[k]? else none
  | none => none
def h_fset (A : AH) (t a k : Nat) (v : Value) : Option AH := match A[a]? with
  | some (t', vs) => if t' = t ∧ k < vs.length then some (A.set a (t', vs.set k v)) else none
  | none => none
def h_aget (A : AH) (t a : Nat) (j : Int32) : Option Value := if j < 0 then none else h_fget A t a j.toNatClampNeg
def h_aset (A : AH) (t a : Nat) (j : Int32) (v : Value) : Option AH := if j < 0 then none else h_fset A t a j.toNatClampNeg v
def h_alen (A : AH) (t a : Nat) : Option Int32 := match A[a]? with
  | some (t', vs) => if t' = t then some vs.length.toInt32 else none
  | none => none
def h_onew (A : AH) (t : Nat) (ds : List Value) : Option (Nat × AH) := some (A.length, A ++ [(t, ds)])
def h_anew (A : AH) (t cap : Nat) (n : Int32) (d : Value) : Option (Nat × AH) := if n < 0 ∨ cap < n.toNatClampNeg then none else some (A.length, A ++ [(t, List.replicate n.toNatClampNeg d)])
def h_isA (A : AH) (t a : Nat) : Option Unit := match A[a]? with
  | some (t', _) => if t' = t then some () else none
  | none => none
/-- what the heap holds of them -/
def OKa (Z : State) (h : Heap) (a : Addr) (ty : FieldType) (vs : List Value) : Prop := ∃ cl : Cell, Arr Z h a cl ty ∧ cl.slots.toList = vs ∧ vs.length < 2 ^ 31 ∧ ∀ v ∈ vs, fits ty v = true
def OKo (Z : State) (h : Heap) (a : Addr) (C : String) (L : List (String × String × String)) (vs : List Value) : Prop := Exa Z h a C ∧ ∀ (k : Nat) (O n d : String) (v : Value), L[k]? = some (O, n, d) → vs[k]? = some v → Fld Z h a O n d v
def OKx (D : Dic) (Z : State) (h : Heap) (a : Addr) (t : Nat) (vs : List Value) : Prop := (t < 10 → OKa Z h a (aty t) vs) ∧ (10 ≤ t → OKo Z h a (D t).1 (D t).2 vs)
def Rep (D : Dic) (Z : State) (n0 : Nat) (h : Heap) (A : AH) : Prop := h.size = n0 + A.length ∧ ∀ (i t : Nat) (vs : List Value), A[i]? = some (t, vs) → OKx D Z h (n0 + i) t (vs.map (lf n0))
def Sep (Z : State) (L : List (String × String × String)) : Prop := ∀ (k k' : Nat) (O n d O' n' d' : String), L[k]? = some (O, n, d) → L[k']? = some (O', n', d') → k ≠ k' → Jvm.RoadKit.slotOf Z O n d ≠ Jvm.RoadKit.slotOf Z O' n' d'
theorem Sep.nil {Z : State} : Sep Z [] := fun k k' O n d O' n' d' h => by simp at h
theorem sep_of {Z : State} {a0 : Array Value} {C : String} {L : List (String × String × String)} (hl : ∀ x ∈ L, Laid Z a0 C x.1 x.2.1 x.2.2 ∧ (parseFieldDescriptor x.2.2).isSome = true) (hn : (L.map fun x => x.2.1).Nodup) : Sep Z L := by
  intro k k' O n d O' n' d' h h' ne
  obtain ⟨l1, p1⟩ := hl _ (List.mem_of_getElem? h)
  obtain ⟨l2, p2⟩ := hl _ (List.mem_of_getElem? h')
  obtain ⟨t1, e1⟩ := Option.isSome_iff_exists.mp p1
  obtain ⟨t2, e2⟩ := Option.isSome_iff_exists.mp p2
  refine slot_ne l1 l2 ?_ e1 e2
  intro q
  obtain ⟨b1, g1⟩ := List.getElem?_eq_some_iff.mp h
  obtain ⟨b2, g2⟩ := List.getElem?_eq_some_iff.mp h'
  refine ne ((List.getElem_inj (xs := L.map fun x => x.2.1) (h₀ := by simpa using b1) (h₁ := by simpa using b2) hn).mp ?_)
  simp only [List.getElem_map, g1, g2]; exact q
section Facts
variable {D : Dic} {Z : State} {n0 : Nat} {h h' : Heap} {A A' : AH} {t a k : Nat} {v : Value}
theorem fget_s (hg : h_fget A t a k = some v) : ∃ vs, A[a]? = some (t, vs) ∧ vs[k]? = some v := by
  unfold h_fget at hg; split at hg
  · rename_i t' vs e
    split at hg
    · rename_i q; subst q; exact ⟨vs, e, hg⟩
    · cases hg
  · cases hg
theorem fset_s (hg : h_fset A t a k v = some A') : ∃ vs, A[a]? = some (t, vs) ∧ k < vs.length ∧ A' = A.set a (t, vs.set k v) := by
  unfold h_fset at hg; split at hg
  · rename_i t' vs e
    split at hg
    · rename_i q; obtain ⟨rfl, q⟩ := q; exact ⟨vs, e, q, (Option.some.inj hg).symm⟩
    · cases hg
  · cases hg
theorem aget_s {j : Int32} (hg : h_aget A t a j = some v) : ¬ j < 0 ∧ h_fget A t a j.toNatClampNeg = some v := by
  unfold h_aget at hg; split at hg
  · cases hg
  · exact ⟨by assumption, hg⟩
theorem aset_s {j : Int32} (hg : h_aset A t a j v = some A') : ¬ j < 0 ∧ h_fset A t a j.toNatClampNeg v = some A' := by
  unfold h_aset at hg; split at hg
  · cases hg
  · exact ⟨by assumption, hg⟩
theorem isA_s {u : Unit} (hg : h_isA A t a = some u) : ∃ vs, A[a]? = some (t, vs) := by
  unfold h_isA at hg; split at hg
  · rename_i t' vs e
    split at hg
    · rename_i q; subst q; exact ⟨vs, e⟩
    · cases hg
  · cases hg
theorem Rep.exa (RA : Rep D Z n0 h A) (ht : 10 ≤ t) {vs : List Value} (hA : A[a]? = some (t, vs)) : Exa Z h (n0 + a) (D t).1 := ((RA.2 a t vs hA).2 ht).1
theorem Rep.fld (RA : Rep D Z n0 h A) (ht : 10 ≤ t) (hg : h_fget A t a k = some v) {O n d : String} (hk : (D t).2[k]? = some (O, n, d)) : Fld Z h (n0 + a) O n d (lf n0 v) := by
  obtain ⟨vs, e, q⟩ := fget_s hg
  exact ((RA.2 a t vs e).2 ht).2 k O n d _ hk (by simp [q])
theorem Rep.arr (RA : Rep D Z n0 h A) (ht : t < 10) {vs : List Value} (hA : A[a]? = some (t, vs)) : ∃ cl : Cell, Arr Z h (n0 + a) cl (aty t) ∧ cl.slots.toList = vs.map (lf n0) ∧ vs.length < 2 ^ 31 ∧ ∀ v ∈ vs.map (lf n0), fits (aty t) v = true := by
  obtain ⟨cl, h1, h2, h3, h4⟩ := (RA.2 a t vs hA).1 ht
  exact ⟨cl, h1, h2, by simpa using h3, h4⟩
theorem Rep.at (RA : Rep D Z n0 h A) (ht : t < 10) {j : Int32} (hg : h_aget A t a j = some v) : ∃ cl : Cell, Arr Z h (n0 + a) cl (aty t) ∧ ¬ (j < 0 ∨ cl.slots.size ≤ j.toNatClampNeg) ∧ cl.slots[j.toNatClampNeg]? = some (lf n0 v) := by
  obtain ⟨hj, hg⟩ := aget_s hg
  obtain ⟨vs, e, q⟩ := fget_s hg
  obtain ⟨cl, h1, h2, -⟩ := RA.arr ht e
  have h4 : cl.slots[j.toNatClampNeg]? = some (lf n0 v) := by rw [← Array.getElem?_toList, h2]; simp [q]
  refine ⟨cl, h1, ?_, h4⟩
  rintro (c | c)
  · exact hj c
  · exact absurd (Array.getElem?_eq_some_iff.mp h4).1 (Nat.not_lt.mpr c)
theorem OKx.other {sl : Nat} {w : Value} {b : Addr} {vs : List Value} (X : OKx D Z h b t vs) (W : Wr h h' a sl w) (ne : b ≠ a) : OKx D Z h' b t vs := by
  refine ⟨fun q => ?_, fun q => ?_⟩
  · obtain ⟨cl, h1, h2⟩ := X.1 q; exact ⟨cl, h1.other W ne, h2⟩
  · obtain ⟨h1, h2⟩ := X.2 q; exact ⟨h1.wr W, fun k O n d v e1 e2 => (h2 k O n d v e1 e2).other W (Or.inl ne)⟩
theorem Rep.set (RA : Rep D Z n0 h A) {sl : Nat} {w : Value} {vs : List Value} (hl : a < A.length) (W : Wr h h' (n0 + a) sl w) (hN : OKx D Z h' (n0 + a) t (vs.map (lf n0))) : Rep D Z n0 h' (A.set a (t, vs)) := by
  refine ⟨by rw [W.size, RA.1, List.length_set], fun i t' vs' e => ?_⟩
  by_cases q : a = i
  · subst q
    rw [List.getElem?_set_self hl] at e
    obtain ⟨rfl, rfl⟩ := Prod.mk.inj (Option.some.inj e); exact hN
  · rw [List.getElem?_set_ne q] at e
    exact (RA.2 i t' vs' e).other W (fun z => q (Nat.add_left_cancel z).symm)
theorem Rep.wrF (sep : Sep Z (D t).2) (RA : Rep D Z n0 h A) (ht : 10 ≤ t) (hp : h_fset A t a k v = some A') {O n d : String} (hk : (D t).2[k]? = some (O, n, d)) (W : Wr h h' (n0 + a) (Jvm.RoadKit.slotOf Z O n d) (lf n0 v)) : Rep D Z n0 h' A' := by
  obtain ⟨vs, e, q, rfl⟩ := fset_s hp
  refine RA.set (List.getElem?_eq_some_iff.mp e).1 W ⟨fun z => absurd ht (by omega), fun _ => ?_⟩
  obtain ⟨h1, h2⟩ := (RA.2 a t vs e).2 ht
  refine ⟨h1.wr W, fun k' O' n' d' v' e1 e2 => ?_⟩
  rw [List.map_set] at e2
  by_cases c : k = k'
  · subst c
    rw [List.getElem?_set_self (by simpa using q)] at e2
    cases hk.symm.trans e1
    cases e2
    exact (h2 k O n d _ hk (List.getElem?_eq_getElem (by simpa using q))).same W
  · rw [List.getElem?_set_ne c] at e2
    exact (h2 k' O' n' d' v' e1 e2).other W (Or.inr (sep k' k O' n' d' O n d e1 hk (Ne.symm c)))
theorem Rep.wrA (RA : Rep D Z n0 h A) (ht : t < 10) {j : Int32} (hp : h_aset A t a j v = some A') (hft : fits (aty t) (lf n0 v) = true) (W : Wr h h' (n0 + a) j.toNatClampNeg (lf n0 v)) : Rep D Z n0 h' A' := by
  obtain ⟨-, hp⟩ := aset_s hp
  obtain ⟨vs, e, q, rfl⟩ := fset_s hp
  refine RA.set (List.getElem?_eq_some_iff.mp e).1 W ⟨fun z => ?_, fun z => absurd ht (by omega)⟩
  obtain ⟨cl, h1, h2, h3, h4⟩ := RA.arr ht e
  refine ⟨_, h1.same W, ?_, by simpa using h3, fun u hu => ?_⟩
  · show (cl.slots.setIfInBounds _ _).toList = _
    rw [Array.toList_setIfInBounds, h2, List.map_set]
  · rw [List.map_set] at hu
    rcases List.mem_or_eq_of_mem_set hu with q | q
    · exact h4 u q
    · rw [q]; exact hft
theorem Rep.into (RA : Rep D Z n0 h A) (ht : t < 10) {j : Int32} (hp : h_aset A t a j v = some A') : ∃ cl : Cell, Arr Z h (n0 + a) cl (aty t) ∧ ¬ (j < 0 ∨ cl.slots.size ≤ j.toNatClampNeg) := by
  obtain ⟨hj, hp⟩ := aset_s hp
  obtain ⟨vs, e, q, rfl⟩ := fset_s hp
  obtain ⟨cl, h1, h2, -⟩ := RA.arr ht e
  refine ⟨cl, h1, ?_⟩
  have : cl.slots.size = vs.length := by rw [← Array.length_toList, h2]; simp
  rintro (c | c)
  · exact hj c
  · omega
theorem OKx.ext {b : Addr} {vs : List Value} (X : OKx D Z h b t vs) (E : Ext h h') : OKx D Z h' b t vs := by
  refine ⟨fun q => ?_, fun q => ?_⟩
  · obtain ⟨cl, h1, h2⟩ := X.1 q; exact ⟨cl, h1.ext E, h2⟩
  · obtain ⟨h1, h2⟩ := X.2 q; exact ⟨h1.ext E, fun k O n d v e1 e2 => (h2 k O n d v e1 e2).ext E⟩
theorem ext_push (h : Heap) (cl : Cell) : Ext h (h.push cl) := ⟨by simp, fun a c e => by rw [Array.getElem?_push_lt (Array.getElem?_eq_some_iff.mp e).1]; exact (Array.getElem?_eq_getElem _).symm.trans e⟩
theorem Rep.push (RA : Rep D Z n0 h A) {cl : Cell} {vs : List Value} (hN : OKx D Z (h.push cl) h.size t (vs.map (lf n0))) : Rep D Z n0 (h.push cl) (A ++ [(t, vs)]) := by
  refine ⟨by rw [Array.size_push, RA.1, List.length_append]; rfl, fun i t' vs' e => ?_⟩
  by_cases q : i < A.length
  · rw [List.getElem?_append_left q] at e
    exact (RA.2 i t' vs' e).ext (ext_push h cl)
  · rw [List.getElem?_append_right (Nat.le_of_not_lt q)] at e
    have e0 : i - A.length = 0 := by
      have := (List.getElem?_eq_some_iff.mp e).1; simp at this; omega
    rw [e0] at e
    obtain ⟨rfl, rfl⟩ := Prod.mk.inj (Option.some.inj e)
    have : i = A.length := by omega
    have e2 : n0 + i = h.size := by rw [RA.1, this]
    rw [e2]; exact hN
end Facts
/-! reading and writing, in plain words -/
theorem eq64 {x y : Int} (h : (x - y) % 18446744073709551616 = 0) (x1 : -9223372036854775808 ≤ x) (x2 : x < 9223372036854775808) (y1 : -9223372036854775808 ≤ y) (y2 : y < 9223372036854775808) : x = y := by omega
theorem eq32 {x y : Int} (h : (x - y) % 4294967296 = 0) (x1 : -2147483648 ≤ x) (x2 : x < 2147483648) (y1 : -2147483648 ≤ y) (y2 : y < 2147483648) : x = y := by omega
theorem nar1 : nar .boolean (1 : Int32) = 1 := by decide
theorem nar0 : nar .boolean (0 : Int32) = 0 := by decide
theorem nclamp (j : Int32) : j.toNatClampNeg = j.toInt.toNat := rfl
theorem nneg {j : Int32} : ¬ j < 0 ↔ 0 ≤ j.toInt := by rw [Int32.lt_iff_toInt_lt]; show ¬ _ < (0 : Int) ↔ _; omega
theorem aset_ok {A : AH} {t a : Nat} {vs : List Value} {j : Int32} {v : Value} (hA : A[a]? = some (t, vs)) (h0 : 0 ≤ j.toInt) (h1 : j.toInt < vs.length) : h_aset A t a j v = some (A.set a (t, vs.set j.toInt.toNat v)) := by
  unfold h_aset; rw [if_neg (nneg.mpr h0)]; unfold h_fset; rw [hA]; simp only [nclamp]
  have : j.toInt.toNat < vs.length := by omega
  rw [if_pos ⟨trivial, this⟩]
theorem aget_ok {A : AH} {t a : Nat} {vs : List Value} {j : Int32} (hA : A[a]? = some (t, vs)) (h0 : 0 ≤ j.toInt) : h_aget A t a j = vs[j.toInt.toNat]? := by
  unfold h_aget; rw [if_neg (nneg.mpr h0)]; unfold h_fget; rw [hA]; simp only [nclamp, if_true]
theorem anew_ok {A : AH} {t cap : Nat} {n : Int32} {d : Value} (h0 : 0 ≤ n.toInt) (h1 : n.toInt ≤ cap) : h_anew A t cap n d = some (A.length, A ++ [(t, List.replicate n.toInt.toNat d)]) := by
  unfold h_anew; rw [nclamp, if_neg (by rintro (c | c); exact nneg.mpr h0 c; omega)]
theorem aset1 {t : Nat} {vs : List Value} {j : Int32} {v : Value} (h0 : 0 ≤ j.toInt) (h1 : j.toInt < vs.length) : h_aset [(t, vs)] t 0 j v = some [(t, vs.set j.toInt.toNat v)] := aset_ok rfl h0 h1
theorem aget1 {t : Nat} {vs : List Value} {j : Int32} (h0 : 0 ≤ j.toInt) : h_aget [(t, vs)] t 0 j = vs[j.toInt.toNat]? := aget_ok rfl h0
/-! ### a run that goes on to its end -/
def Go (p : Program) (e : Env) (below : List Frame) (S : State) (G : Outcome → State → Prop) : Prop := ∃ t o, Steps p.tables e below S t ∧ t.status = .running ∧ Ended t below o ∧ G o t
def QR (D : Dic) (Z : State) (n0 : Nat) (r : Option Value) (A : AH) (v : Option Value) (h : Heap) (L : List Loc) : Prop := v = r ∧ Fr n0 L ∧ Rep D Z n0 h A
def Fini (D : Dic) (Z : State) (n0 : Nat) (s : State) (R : Room) (r : Option Value) (A : AH) : Outcome → State → Prop := fun o t => ∃ v L, o = .returned v ∧ QR D Z n0 r A v t.heap L ∧ FrameEnd s o t L R.cells R.slots
def On (p : Program) (l : Launch) (e : Env) (R : Room) (s : State) (m : MethodId) (args : Array Value) (below : List Frame) (meth : Method) (c : Code) (D : Dic) (Z : State) (n0 : Nat) (T : State) (A : AH) (cells slots : Nat) : Prop :=
  ∃ locs, Stand p l e R s m args below meth c T locs cells slots ∧ Fr n0 locs ∧ Rep D Z n0 T.heap A
def Cx (p : Program) (l : Launch) (e : Env) (R : Room) (s : State) (m : MethodId) (meth : Method) (c : Code) (Z : State) (a0 : Array Value) (W : List Jvm.Cond) (own nm : String) (bytes : ByteArray) (ml : Nat) (rt : Option FieldType) : Prop :=
  p.tables.exec = Jvm.exec ∧ Z.Warmed39 s.vm ∧ s.vm.findClass own = some m.cls ∧ c.code = bytes ∧ c.maxLocals = ml ∧ meth.sig.returnType = rt ∧ meth.locks = false ∧ meth.name = nm ∧ ∀ d ∈ W, d.before a0 Z = true
def Met (l : Launch) (D : Dic) (Z : State) (n0 : Nat) (y : MethodName) (bytes : ByteArray) (ml : Nat) (rt : Option FieldType) (R : Room) (as : List Value) (A : AH) (r : Option Value) (A' : AH) : Prop :=
  ∀ (ws : List Jvm.Cond) (h0 : Heap), Rep D Z n0 h0 A → MetFree l y (head1 (Jvm.Cond.code y bytes ml rt :: ws) R) (fun a U => a = as.toArray ∧ Z.Warmed39 U.vm ∧ U.heap = h0) (fun _ _ _ _ _ => True) (fun _ U o U' => ∃ v L, o = .returned v ∧ QR D Z n0 r A' v U'.heap L ∧ FrameEnd U o U' L R.cells R.slots)
section Walk
variable {p : Program} {l : Launch} {e : Env} {R : Room} {s : State} {m : MethodId} {args : Array Value} {below : List Frame} {meth : Method} {c : Code} {Z : State} {a0 : Array Value} {W : List Jvm.Cond} {own nm : String} {bytes : ByteArray} {ml : Nat} {rt : Option FieldType} {D : Dic} {n0 : Nat} {T : State} {A A' : AH} {cells slots : Nat} {G : Outcome → State → Prop} {pc : Nat} {Ls : Array Slot} {st : List Value}
theorem go {S S' : State} (h : ∀ t, Steps p.tables e below S' t → Steps p.tables e below S t) (k : Go p e below S' G) : Go p e below S G := by
  obtain ⟨t, o, h1, h2⟩ := k; exact ⟨t, o, h t h1, h2⟩
theorem On.here (X : On p l e R s m args below meth c D Z n0 T A cells slots) : At T m c below := by obtain ⟨_, X, -⟩ := X; exact X.here
theorem On.more {cells' slots' : Nat} (X : On p l e R s m args below meth c D Z n0 T A cells slots) (hc : cells ≤ cells') (hs : slots ≤ slots') : On p l e R s m args below meth c D Z n0 T A cells' slots' := by
  obtain ⟨locs, X, N⟩ := X; exact ⟨locs, X.more hc hs, N⟩
theorem wd {d : Jvm.Cond} (K : Cx p l e R s m meth c Z a0 W own nm bytes ml rt) {i : Nat} (h : W[i]? = some d) : d.before a0 Z = true := K.2.2.2.2.2.2.2.2 d (List.mem_of_getElem? h)
theorem dc (K : Cx p l e R s m meth c Z a0 W own nm bytes ml rt) {r : Except DecodeError (Instr × Nat)} (h : decode bytes pc = r) : decode c.code pc = r := K.2.2.2.1 ▸ h
theorem ldcI (K : Cx p l e R s m meth c Z a0 W own nm bytes ml rt) (X : On p l e R s m args below meth c D Z n0 T A cells slots) {i idx : Nat} {v : Int32} (w : W[i]? = some (.constant own idx v)) (hd : decode bytes pc = .ok (.ldc idx, 2))
    {pc' : Nat} (hp : pc + 2 = pc') (k : Go p e below (T.setTop (mkF m pc'  Ls (.int v :: st))) G) : Go p e below (T.setTop (mkF m pc Ls st)) G := by
  subst hp
  obtain ⟨locs, X, -⟩ := X
  exact go (X.ldcInt K.1 K.2.2.1 (mvT K.2.1 (wd K w)) (g := mkF m pc Ls st) rfl (dc K hd)) k
theorem ldcwI (K : Cx p l e R s m meth c Z a0 W own nm bytes ml rt) (X : On p l e R s m args below meth c D Z n0 T A cells slots) {i idx : Nat} {v : Int32} (w : W[i]? = some (.constant own idx v)) (hd : decode bytes pc = .ok (.ldc_w idx, 3))
    {pc' : Nat} (hp : pc + 3 = pc') (k : Go p e below (T.setTop (mkF m pc'  Ls (.int v :: st))) G) : Go p e below (T.setTop (mkF m pc Ls st)) G := by
  subst hp
  obtain ⟨locs, X, -⟩ := X
  exact go (X.ldcwInt K.1 K.2.2.1 (mvT K.2.1 (wd K w)) (g := mkF m pc Ls st) rfl (dc K hd)) k
theorem ldcL (K : Cx p l e R s m meth c Z a0 W own nm bytes ml rt) (X : On p l e R s m args below meth c D Z n0 T A cells slots) {i idx : Nat} {v : Int64} (w : W[i]? = some (.constantLong own idx v)) (hd : decode bytes pc = .ok (.ldc2_w idx, 3))
    {pc' : Nat} (hp : pc + 3 = pc') (k : Go p e below (T.setTop (mkF m pc'  Ls (.long v :: st))) G) : Go p e below (T.setTop (mkF m pc Ls st)) G := by
  subst hp
  obtain ⟨locs, X, -⟩ := X
  exact go (X.ldc2Long K.1 K.2.2.1 (mvT K.2.1 (wd K w)) (g := mkF m pc Ls st) rfl (dc K hd)) k
/-! the returns -/
theorem retV (K : Cx p l e R s m meth c Z a0 W own nm bytes ml none) (X : On p l e R s m args below meth c D Z n0 T A cells slots) (hc : cells ≤ R.cells) (hs : slots ≤ R.slots) (hd : decode bytes pc = .ok (.return_, 1)) :
    Go p e below (T.setTop (mkF m pc Ls [])) (Fini D Z n0 s R none A) := by
  obtain ⟨locs, X, N, RA⟩ := X
  obtain ⟨fs, hr, hrun, hended, hW, hsame⟩ := X.leave (v := none) (fun _ => rfl) K.2.2.2.2.2.2.1
  exact ⟨_, _, X.returnOut K.1 K.2.2.2.2.2.1 (dc K hd) hr, hrun, hended, none, locs, rfl, ⟨rfl, N, RA⟩, ⟨_, rfl⟩, hW, hsame.mono hc hs⟩
theorem retX {t : FieldType} {i : Instr} {w : Value} (K : Cx p l e R s m meth c Z a0 W own nm bytes ml (some t)) (X : On p l e R s m args below meth c D Z n0 T A cells slots) (hc : cells ≤ R.cells) (hs : slots ≤ R.slots) (hd : decode bytes pc = .ok (i, 1)) (hn : narrow t w = w)
    (hi : (i = .ireturn ∧ (t = .int ∨ t = .boolean ∨ t = .byte ∨ t = .char ∨ t = .short) ∧ ∃ z, w = .int z) ∨ (i = .lreturn ∧ t = .long ∧ ∃ z, w = .long z) ∨ (i = .dreturn ∧ t = .double ∧ ∃ z, w = .double z) ∨ (i = .freturn ∧ t = .float ∧ ∃ z, w = .float z) ∨ (i = .areturn ∧ t.isReference = true ∧ w.isRef = true)) :
    Go p e below (T.setTop (mkF m pc Ls (w :: st))) (Fini D Z n0 s R (some w) A) := by
  obtain ⟨locs, X, N, RA⟩ := X
  obtain ⟨fs, hr, hrun, hended, hW, hsame⟩ := X.leave (v := some w) (fun h => by rw [K.2.2.2.2.2.1] at h; cases h) K.2.2.2.2.2.2.1
  exact ⟨_, _, Jvm.RoadKit.retOut X K.1 K.2.2.2.2.2.1 hn hi (dc K hd) hr, hrun, hended, some w, locs, rfl, ⟨rfl, N, RA⟩, ⟨_, rfl⟩, hW, hsame.mono hc hs⟩
theorem retI {z : Int32} (K : Cx p l e R s m meth c Z a0 W own nm bytes ml (some .int)) (X : On p l e R s m args below meth c D Z n0 T A cells slots) (hc : cells ≤ R.cells) (hs : slots ≤ R.slots) (hd : decode bytes pc = .ok (.ireturn, 1)) :
    Go p e below (T.setTop (mkF m pc Ls (.int z :: st))) (Fini D Z n0 s R (some (.int z)) A) := retX K X hc hs hd rfl (Or.inl ⟨rfl, Or.inl rfl, z, rfl⟩)
theorem retJ {z : Int64} (K : Cx p l e R s m meth c Z a0 W own nm bytes ml (some .long)) (X : On p l e R s m args below meth c D Z n0 T A cells slots) (hc : cells ≤ R.cells) (hs : slots ≤ R.slots) (hd : decode bytes pc = .ok (.lreturn, 1)) :
    Go p e below (T.setTop (mkF m pc Ls (.long z :: st))) (Fini D Z n0 s R (some (.long z)) A) := retX K X hc hs hd rfl (Or.inr (Or.inl ⟨rfl, rfl, z, rfl⟩))
theorem retR {a : Addr} {t : FieldType} (K : Cx p l e R s m meth c Z a0 W own nm bytes ml (some t)) (ht : t.isReference = true) (hn : narrow t (.ref a) = .ref a) (X : On p l e R s m args below meth c D Z n0 T A cells slots) (hc : cells ≤ R.cells) (hs : slots ≤ R.slots) (hd : decode bytes pc = .ok (.areturn, 1)) :
    Go p e below (T.setTop (mkF m pc Ls (.ref a :: st))) (Fini D Z n0 s R (some (.ref a)) A) := retX K X hc hs hd hn (Or.inr (Or.inr (Or.inr (Or.inr ⟨rfl, ht, rfl⟩))))
theorem retB {z : Int32} {t : FieldType} (K : Cx p l e R s m meth c Z a0 W own nm bytes ml (some t)) (ht : t = .boolean ∨ t = .byte ∨ t = .char ∨ t = .short) (X : On p l e R s m args below meth c D Z n0 T A cells slots) (hc : cells ≤ R.cells) (hs : slots ≤ R.slots) (hd : decode bytes pc = .ok (.ireturn, 1)) :
    Go p e below (T.setTop (mkF m pc Ls (.int z :: st))) (Fini D Z n0 s R (some (.int (nar t z))) A) := by
  obtain ⟨locs, X, N, RA⟩ := X
  obtain ⟨fs, hr, hrun, hended, hW, hsame⟩ := X.leave (v := some (.int (nar t z))) (fun h => by rw [K.2.2.2.2.2.1] at h; cases h) K.2.2.2.2.2.2.1
  exact ⟨_, _, Jvm.RoadKit.retN X K.1 K.2.2.2.2.2.1 ht (dc K hd) hr, hrun, hended, some (.int (nar t z)), locs, rfl, ⟨rfl, N, RA⟩, ⟨_, rfl⟩, hW, hsame.mono hc hs⟩
/-! fields -/
theorem getf (K : Cx p l e R s m meth c Z a0 W own nm bytes ml rt) (X : On p l e R s m args below meth c D Z n0 T A cells slots) {i idx t f a : Nat} {O n d : String} {v : Value} (w : W[i]? = some (.fieldLink own idx O n d)) (hd : decode bytes pc = .ok (.getfield idx, 3))
    (ht : 10 ≤ t) (hk : (D t).2[f]? = some (O, n, d)) (hg : h_fget A t a f = some v)
    {pc' : Nat} (hp : pc + 3 = pc') (k : ∀ T', On p l e R s m args below meth c D Z n0 T' A cells slots → Go p e below (T'.setTop (mkF m pc'  Ls (lf n0 v :: st))) G) : Go p e below (T.setTop (mkF m pc Ls (.ref (n0 + a) :: st))) G := by
  subst hp
  obtain ⟨locs, X, N, RA⟩ := X
  obtain ⟨T', X', e', stp⟩ := getF X K.1 K.2.1 K.2.2.1 (host := "") (Or.inl (wd K w)) Via.refl rfl (RA.fld ht hg hk) (g := mkF m pc Ls (.ref (n0 + a) :: st)) rfl rfl (dc K hd)
  exact go stp (k T' ⟨locs, X', N, by rw [e']; exact RA⟩)
theorem getfI (K : Cx p l e R s m meth c Z a0 W own nm bytes ml rt) (X : On p l e R s m args below meth c D Z n0 T A cells slots) {i idx t f a : Nat} {O n d : String} {v : Int32} (w : W[i]? = some (.fieldLink own idx O n d)) (hd : decode bytes pc = .ok (.getfield idx, 3))
    (ht : 10 ≤ t) (hk : (D t).2[f]? = some (O, n, d)) (hg : asI (h_fget A t a f) = some v)
    {pc' : Nat} (hp : pc + 3 = pc') (k : ∀ T', On p l e R s m args below meth c D Z n0 T' A cells slots → Go p e below (T'.setTop (mkF m pc' Ls (.int v :: st))) G) : Go p e below (T.setTop (mkF m pc Ls (.ref (n0 + a) :: st))) G := getf K X w hd ht hk (asI_s hg) hp k
theorem getfJ (K : Cx p l e R s m meth c Z a0 W own nm bytes ml rt) (X : On p l e R s m args below meth c D Z n0 T A cells slots) {i idx t f a : Nat} {O n d : String} {v : Int64} (w : W[i]? = some (.fieldLink own idx O n d)) (hd : decode bytes pc = .ok (.getfield idx, 3))
    (ht : 10 ≤ t) (hk : (D t).2[f]? = some (O, n, d)) (hg : asJ (h_fget A t a f) = some v)
    {pc' : Nat} (hp : pc + 3 = pc') (k : ∀ T', On p l e R s m args below meth c D Z n0 T' A cells slots → Go p e below (T'.setTop (mkF m pc' Ls (.long v :: st))) G) : Go p e below (T.setTop (mkF m pc Ls (.ref (n0 + a) :: st))) G := getf K X w hd ht hk (asJ_s hg) hp k
theorem getfR (K : Cx p l e R s m meth c Z a0 W own nm bytes ml rt) (X : On p l e R s m args below meth c D Z n0 T A cells slots) {i idx t f a : Nat} {O n d : String} {v : Nat} (w : W[i]? = some (.fieldLink own idx O n d)) (hd : decode bytes pc = .ok (.getfield idx, 3))
    (ht : 10 ≤ t) (hk : (D t).2[f]? = some (O, n, d)) (hg : asR (h_fget A t a f) = some v)
    {pc' : Nat} (hp : pc + 3 = pc') (k : ∀ T', On p l e R s m args below meth c D Z n0 T' A cells slots → Go p e below (T'.setTop (mkF m pc' Ls (.ref (n0 + v) :: st))) G) : Go p e below (T.setTop (mkF m pc Ls (.ref (n0 + a) :: st))) G := getf K X w hd ht hk (asR_s hg) hp k
theorem putf (K : Cx p l e R s m meth c Z a0 W own nm bytes ml rt) (sep : ∀ t, Sep Z (D t).2) (X : On p l e R s m args below meth c D Z n0 T A cells slots) {i idx t f a kk i2 : Nat} {O n d : String} {va v : Value} {ty : FieldType} (w : W[i]? = some (.fieldLink own idx O n d)) (hd : decode bytes pc = .ok (.putfield idx, 3))
    (ht : 10 ≤ t) (hk : (D t).2[f]? = some (O, n, d)) (wl : (Jvm.Cond.lays (D t).1 O n d).before a0 Z = true ∨ ((Jvm.Cond.laysFinal (D t).1 O n d).before a0 Z = true ∧ own = O ∧ nm = "<init>")) (wi : W[i2]? = some (.instantiable (D t).1 kk))
    (hty : parseFieldDescriptor d = some ty) (hn : narrow ty v = lf n0 va) (hf : fits ty (lf n0 va) = true) (hp : h_fset A t a f va = some A')
    {pc' : Nat} (hp : pc + 3 = pc') (k : ∀ T', On p l e R s m args below meth c D Z n0 T' A' cells slots → Go p e below (T'.setTop (mkF m pc'  Ls st)) G) : Go p e below (T.setTop (mkF m pc Ls (v :: .ref (n0 + a) :: st))) G := by
  subst hp
  obtain ⟨locs, X, N, RA⟩ := X
  obtain ⟨vs, hA, hlt, -⟩ := fset_s hp
  have F := RA.fld ht (show h_fget A t a f = some vs[f] by simp [h_fget, hA]) hk
  obtain ⟨T', h', X', e', W', stp⟩ := putFN X K.1 K.2.1 K.2.2.1 (wd K w) Via.refl rfl F (RA.exa ht hA) (wl.imp id fun q => ⟨q.1, q.2.1, K.2.2.2.2.2.2.2.1.trans q.2.2⟩) (wd K wi) hty hn hf (g := mkF m pc Ls (v :: .ref (n0 + a) :: st)) rfl rfl (dc K hd)
  exact go stp (k T' ⟨_, X', Fr.snoc X' N (Nat.le_add_right _ _), by rw [e']; exact RA.wrF (sep t) ht hp hk W'⟩)
/-! new -/
theorem newo (K : Cx p l e R s m meth c Z a0 W own nm bytes ml rt) (X : On p l e R s m args below meth c D Z n0 T A cells slots) {i1 i2 i3 idx n t : Nat} {ds : List Value} (w1 : W[i1]? = some (.classLink own idx (D t).1)) (w2 : W[i2]? = some (.instantiable (D t).1 n)) (w3 : W[i3]? = some (.initialized (D t).1))
    (hd : decode bytes pc = .ok (.new idx, 3)) (hc : cells + 1 ≤ R.cells) (hs : slots + n ≤ R.slots) (ht : 10 ≤ t) (hds : ∀ (k : Nat) (O f d : String) (v : Value), (D t).2[k]? = some (O, f, d) → ds[k]? = some v → ∃ ty, parseFieldDescriptor d = some ty ∧ Laid Z a0 (D t).1 O f d ∧ lf n0 v = defaultValue ty)
    {q : Nat × AH} (hq : h_onew A t ds = some q)
    {pc' : Nat} (hp : pc + 3 = pc') (k : ∀ T', On p l e R s m args below meth c D Z n0 T' q.2 (cells + 1) (slots + n) → Go p e below (T'.setTop (mkF m pc'  Ls (.ref (n0 + q.1) :: st))) G) : Go p e below (T.setTop (mkF m pc Ls st)) G := by
  subst hp
  cases hq
  obtain ⟨locs, X, N, RA⟩ := X
  obtain ⟨vm', cC, kC, h1, h2, h3, h4, X', stp⟩ := X.newCold K.1 K.2.2.1 (mvT K.2.1 (wd K w1)) (mvT K.2.1 (wd K w2)) (mvT K.2.1 (wd K w3)) (g := mkF m pc Ls st) rfl (dc K hd) hc hs
  have hZ := K.2.1
  rw [hZ.alike.findClass] at h1
  obtain ⟨kZ, z1, -⟩ := Vm.findClass_spec h1
  obtain ⟨k', z2, z3⟩ := hZ.alike.2.2 _ _ z1
  cases h2.symm.trans z2
  have ei : kC.instanceTypes = kZ.instanceTypes := by rw [z3]
  have hN : (T.heap.push { cls := cC, slots := kC.instanceTypes.map defaultValue, vm := .none })[T.heap.size]? = some { cls := cC, slots := kC.instanceTypes.map defaultValue, vm := .none } := by simp
  have hsz := RA.1
  refine go stp ?_
  rw [hsz]
  refine k _ ⟨locs, X', N, ?_⟩
  show Rep D Z n0 (T.heap.push _) _
  refine RA.push ⟨fun z => absurd ht (by omega), fun _ => ⟨⟨_, kZ, hN, h1, z1, rfl, fun _ => by simp [ei]⟩, fun j O f d v e1 e2 => ?_⟩⟩
  rw [List.getElem?_map, Option.map_eq_some_iff] at e2
  obtain ⟨v0, e2, rfl⟩ := e2
  obtain ⟨ty, p1, p2, p3⟩ := hds j O f d v0 e1 e2
  obtain ⟨c1, k1, cf, kf, i, f', a1, a2, a3, a4, a5, a6, -⟩ := p2.spec
  cases h1.symm.trans a1
  cases z1.symm.trans a2
  exact ⟨_, cf, kf, i, f', hN, a3, a4, by simp, rfl, a5, by simp [ei, a6, (State.fieldFound?_type a3 p1).2, p3]⟩
theorem newa (K : Cx p l e R s m meth c Z a0 W own nm bytes ml rt) (X : On p l e R s m args below meth c D Z n0 T A cells slots) {i1 t cap : Nat} {at' : ArrayType} {n : Int32} {dv : Value} (w1 : W[i1]? = some (.arrayClass (newarray.typeOf at'))) (hd : decode bytes pc = .ok (.newarray at', 2))
    (hb : cap * 8 ≤ 536870912) (hc : cells + 1 ≤ R.cells) (hs : slots + cap ≤ R.slots) (ht : t < 10) (hty : newarray.typeOf at' = aty t) (hdv : lf n0 dv = defaultValue (aty t)) {q : Nat × AH} (hq : h_anew A t cap n dv = some q)
    {pc' : Nat} (hp : pc + 2 = pc') (k : ∀ T', On p l e R s m args below meth c D Z n0 T' q.2 (cells + 1) (slots + cap) → Go p e below (T'.setTop (mkF m pc'  Ls (.ref (n0 + q.1) :: st))) G) : Go p e below (T.setTop (mkF m pc Ls (.int n :: st))) G := by
  subst hp
  unfold h_anew at hq
  split at hq
  · cases hq
  rename_i hn
  cases hq
  have hn1 : ¬ n < 0 := fun z => hn (Or.inl z)
  have hn2 : n.toNatClampNeg ≤ cap := Nat.le_of_not_lt fun z => hn (Or.inr z)
  have hn3 : n.toNatClampNeg < 2 ^ 31 := (back32 hn1).2
  obtain ⟨locs, X, N, RA⟩ := X
  have hZ := K.2.1
  have hcb : componentBytes (newarray.typeOf at') ≤ 8 := by cases at' <;> decide
  obtain ⟨cA, kA, comp, h1, h2, h3, X', stp⟩ := X.newarrayPrim K.1 (mvA hZ (wd K w1)) (g := mkF m pc Ls (.int n :: st)) rfl (dc K hd) rfl hn1 (Nat.le_trans (Nat.mul_le_mul hn2 hcb) hb) hc (by omega)
  rw [hZ.alike.findClass] at h1
  obtain ⟨kZ, z1, -⟩ := Vm.findClass_spec h1
  obtain ⟨k', z2, z3⟩ := hZ.alike.2.2 _ _ z1
  cases h2.symm.trans z2
  refine go stp ?_
  rw [RA.1]
  refine k _ ⟨locs, X'.more (Nat.le_refl _) (by omega), N, ?_⟩
  show Rep D Z n0 (T.heap.push _) _
  refine RA.push ⟨fun _ => ⟨_, ⟨by simp; rfl, ⟨by simp, kZ, z1, comp, by rw [← hty, ← h3, z3]⟩, by simp⟩, ?_, by simpa using hn3, fun v hv => ?_⟩, fun z => absurd ht (by omega)⟩
  · simp [hty, hdv]
  · rw [List.map_replicate] at hv
    rw [List.eq_of_mem_replicate hv, hdv]; cases aty t <;> rfl
/-! arrays -/
theorem h_alen' (K : Cx p l e R s m meth c Z a0 W own nm bytes ml rt) (X : On p l e R s m args below meth c D Z n0 T A cells slots) {t a : Nat} {n : Int32} (ht : t < 10) (hg : h_alen A t a = some n) (hd : decode bytes pc = .ok (.arraylength, 1))
    {pc' : Nat} (hp : pc + 1 = pc') (k : Go p e below (T.setTop (mkF m pc'  Ls (.int n :: st))) G) : Go p e below (T.setTop (mkF m pc Ls (.ref (n0 + a) :: st))) G := by
  subst hp
  obtain ⟨locs, X, N, RA⟩ := X
  unfold h_alen at hg
  split at hg
  · rename_i t' vs e
    split at hg
    · rename_i q; subst q
      cases hg
      obtain ⟨cl, h1, h2, -⟩ := RA.arr ht e
      have : cl.slots.size = vs.length := by rw [← Array.length_toList, h2]; simp
      rw [← this] at k
      exact go (X.arraylength K.1 h1.1 (State.isArrayOf_alike K.2.1.alike h1.2.1) (g := mkF m pc Ls (.ref (n0 + a) :: st)) rfl rfl (dc K hd)) k
    · cases hg
  · cases hg
theorem ald0 (K : Cx p l e R s m meth c Z a0 W own nm bytes ml rt) (X : On p l e R s m args below meth c D Z n0 T A cells slots) {a : Nat} {j : Int32} {v : Value} (hg : h_aget A 0 a j = some v) (hd : decode bytes pc = .ok (.iaload, 1))
    {pc' : Nat} (hp : pc + 1 = pc') (k : Go p e below (T.setTop (mkF m pc'  Ls (lf n0 v :: st))) G) : Go p e below (T.setTop (mkF m pc Ls (.int j :: .ref (n0 + a) :: st))) G := by
  subst hp
  obtain ⟨locs, X, N, RA⟩ := X
  obtain ⟨cl, h1, h2, h3⟩ := RA.at (by decide) hg
  exact go (X.iaload K.1 h1.1 (State.isArrayOf_alike K.2.1.alike h1.2.1) h1.2.2 h2 h3 (g := mkF m pc Ls (.int j :: .ref (n0 + a) :: st)) rfl rfl (dc K hd)) k
theorem ald1 (K : Cx p l e R s m meth c Z a0 W own nm bytes ml rt) (X : On p l e R s m args below meth c D Z n0 T A cells slots) {a : Nat} {j : Int32} {v : Value} (hg : h_aget A 1 a j = some v) (hd : decode bytes pc = .ok (.caload, 1))
    {pc' : Nat} (hp : pc + 1 = pc') (k : Go p e below (T.setTop (mkF m pc'  Ls (lf n0 v :: st))) G) : Go p e below (T.setTop (mkF m pc Ls (.int j :: .ref (n0 + a) :: st))) G := by
  subst hp
  obtain ⟨locs, X, N, RA⟩ := X
  obtain ⟨cl, h1, h2, h3⟩ := RA.at (by decide) hg
  exact go (X.caload K.1 h1.1 (State.isArrayOf_alike K.2.1.alike h1.2.1) h1.2.2 h2 h3 (g := mkF m pc Ls (.int j :: .ref (n0 + a) :: st)) rfl rfl (dc K hd)) k
theorem ald2 (K : Cx p l e R s m meth c Z a0 W own nm bytes ml rt) (X : On p l e R s m args below meth c D Z n0 T A cells slots) {a : Nat} {j : Int32} {v : Value} (hg : h_aget A 2 a j = some v) (hd : decode bytes pc = .ok (.baload, 1))
    {pc' : Nat} (hp : pc + 1 = pc') (k : Go p e below (T.setTop (mkF m pc'  Ls (lf n0 v :: st))) G) : Go p e below (T.setTop (mkF m pc Ls (.int j :: .ref (n0 + a) :: st))) G := by
  subst hp
  obtain ⟨locs, X, N, RA⟩ := X
  obtain ⟨cl, h1, h2, h3⟩ := RA.at (by decide) hg
  exact go (X.baloadBytes K.1 h1.1 (State.isArrayOf_alike K.2.1.alike h1.2.1) h1.2.2 h2 h3 (g := mkF m pc Ls (.int j :: .ref (n0 + a) :: st)) rfl rfl (dc K hd)) k
theorem ald3 (K : Cx p l e R s m meth c Z a0 W own nm bytes ml rt) (X : On p l e R s m args below meth c D Z n0 T A cells slots) {a : Nat} {j : Int32} {v : Value} (hg : h_aget A 3 a j = some v) (hd : decode bytes pc = .ok (.laload, 1))
    {pc' : Nat} (hp : pc + 1 = pc') (k : Go p e below (T.setTop (mkF m pc'  Ls (lf n0 v :: st))) G) : Go p e below (T.setTop (mkF m pc Ls (.int j :: .ref (n0 + a) :: st))) G := by
  subst hp
  obtain ⟨locs, X, N, RA⟩ := X
  obtain ⟨cl, h1, h2, h3⟩ := RA.at (by decide) hg
  exact go (X.laload K.1 h1.1 (State.isArrayOf_alike K.2.1.alike h1.2.1) h1.2.2 h2 h3 (g := mkF m pc Ls (.int j :: .ref (n0 + a) :: st)) rfl rfl (dc K hd)) k
theorem ald4 (K : Cx p l e R s m meth c Z a0 W own nm bytes ml rt) (X : On p l e R s m args below meth c D Z n0 T A cells slots) {a : Nat} {j : Int32} {v : Value} (hg : h_aget A 4 a j = some v) (hd : decode bytes pc = .ok (.baload, 1))
    {pc' : Nat} (hp : pc + 1 = pc') (k : Go p e below (T.setTop (mkF m pc'  Ls (lf n0 v :: st))) G) : Go p e below (T.setTop (mkF m pc Ls (.int j :: .ref (n0 + a) :: st))) G := by
  subst hp
  obtain ⟨locs, X, N, RA⟩ := X
  obtain ⟨cl, h1, h2, h3⟩ := RA.at (by decide) hg
  exact go (X.baloadBooleans K.1 h1.1 (State.isArrayOf_alike K.2.1.alike h1.2.1) h1.2.2 h2 h3 (g := mkF m pc Ls (.int j :: .ref (n0 + a) :: st)) rfl rfl (dc K hd)) k
theorem ld0 (K : Cx p l e R s m meth c Z a0 W own nm bytes ml rt) (X : On p l e R s m args below meth c D Z n0 T A cells slots) {a : Nat} {j : Int32} {v : Int32} (hg : asI (h_aget A 0 a j) = some v) (hd : decode bytes pc = .ok (.iaload, 1))
    {pc' : Nat} (hp : pc + 1 = pc') (k : Go p e below (T.setTop (mkF m pc' Ls (.int v :: st))) G) : Go p e below (T.setTop (mkF m pc Ls (.int j :: .ref (n0 + a) :: st))) G := ald0 K X (asI_s hg) hd hp k
theorem ld1 (K : Cx p l e R s m meth c Z a0 W own nm bytes ml rt) (X : On p l e R s m args below meth c D Z n0 T A cells slots) {a : Nat} {j : Int32} {v : Int32} (hg : asI (h_aget A 1 a j) = some v) (hd : decode bytes pc = .ok (.caload, 1))
    {pc' : Nat} (hp : pc + 1 = pc') (k : Go p e below (T.setTop (mkF m pc' Ls (.int v :: st))) G) : Go p e below (T.setTop (mkF m pc Ls (.int j :: .ref (n0 + a) :: st))) G := ald1 K X (asI_s hg) hd hp k
theorem ld2 (K : Cx p l e R s m meth c Z a0 W own nm bytes ml rt) (X : On p l e R s m args below meth c D Z n0 T A cells slots) {a : Nat} {j : Int32} {v : Int32} (hg : asI (h_aget A 2 a j) = some v) (hd : decode bytes pc = .ok (.baload, 1))
    {pc' : Nat} (hp : pc + 1 = pc') (k : Go p e below (T.setTop (mkF m pc' Ls (.int v :: st))) G) : Go p e below (T.setTop (mkF m pc Ls (.int j :: .ref (n0 + a) :: st))) G := ald2 K X (asI_s hg) hd hp k
theorem ld3 (K : Cx p l e R s m meth c Z a0 W own nm bytes ml rt) (X : On p l e R s m args below meth c D Z n0 T A cells slots) {a : Nat} {j : Int32} {v : Int64} (hg : asJ (h_aget A 3 a j) = some v) (hd : decode bytes pc = .ok (.laload, 1))
    {pc' : Nat} (hp : pc + 1 = pc') (k : Go p e below (T.setTop (mkF m pc' Ls (.long v :: st))) G) : Go p e below (T.setTop (mkF m pc Ls (.int j :: .ref (n0 + a) :: st))) G := ald3 K X (asJ_s hg) hd hp k
theorem ld4 (K : Cx p l e R s m meth c Z a0 W own nm bytes ml rt) (X : On p l e R s m args below meth c D Z n0 T A cells slots) {a : Nat} {j : Int32} {v : Int32} (hg : asI (h_aget A 4 a j) = some v) (hd : decode bytes pc = .ok (.baload, 1))
    {pc' : Nat} (hp : pc + 1 = pc') (k : Go p e below (T.setTop (mkF m pc' Ls (.int v :: st))) G) : Go p e below (T.setTop (mkF m pc Ls (.int j :: .ref (n0 + a) :: st))) G := ald4 K X (asI_s hg) hd hp k
theorem ast0 (K : Cx p l e R s m meth c Z a0 W own nm bytes ml rt) (X : On p l e R s m args below meth c D Z n0 T A cells slots) {a : Nat} {j x : Int32} (hp : h_aset A 0 a j (.int x) = some A') (hd : decode bytes pc = .ok (.iastore, 1))
    {pc' : Nat} (hp : pc + 1 = pc') (k : ∀ T', On p l e R s m args below meth c D Z n0 T' A' cells slots → Go p e below (T'.setTop (mkF m pc'  Ls st)) G) : Go p e below (T.setTop (mkF m pc Ls (.int x :: .int j :: .ref (n0 + a) :: st))) G := by
  subst hp
  obtain ⟨locs, X, N, RA⟩ := X
  obtain ⟨cl, h1, h2⟩ := RA.into (by decide) hp
  obtain ⟨T', h', X', e', W', stp⟩ := stI X K.1 K.2.1 rfl h1 h2 (g := mkF m pc Ls (.int x :: .int j :: .ref (n0 + a) :: st)) rfl rfl (dc K hd)
  exact go stp (k T' ⟨_, X', Fr.snoc X' N (Nat.le_add_right _ _), by rw [e']; exact RA.wrA (by decide) hp rfl W'⟩)
theorem ast1 (K : Cx p l e R s m meth c Z a0 W own nm bytes ml rt) (X : On p l e R s m args below meth c D Z n0 T A cells slots) {a : Nat} {j x : Int32} (hp : h_aset A 1 a j (.int (nar .char x)) = some A') (hd : decode bytes pc = .ok (.castore, 1))
    {pc' : Nat} (hp : pc + 1 = pc') (k : ∀ T', On p l e R s m args below meth c D Z n0 T' A' cells slots → Go p e below (T'.setTop (mkF m pc'  Ls st)) G) : Go p e below (T.setTop (mkF m pc Ls (.int x :: .int j :: .ref (n0 + a) :: st))) G := by
  subst hp
  obtain ⟨locs, X, N, RA⟩ := X
  obtain ⟨cl, h1, h2⟩ := RA.into (by decide) hp
  obtain ⟨T', h', X', e', W', stp⟩ := stC X K.1 K.2.1 rfl h1 h2 (g := mkF m pc Ls (.int x :: .int j :: .ref (n0 + a) :: st)) rfl rfl (dc K hd)
  exact go stp (k T' ⟨_, X', Fr.snoc X' N (Nat.le_add_right _ _), by rw [e']; exact RA.wrA (by decide) hp (fits_nar_char _) W'⟩)
theorem ast2 (K : Cx p l e R s m meth c Z a0 W own nm bytes ml rt) (X : On p l e R s m args below meth c D Z n0 T A cells slots) {a : Nat} {j x : Int32} (hp : h_aset A 2 a j (.int (nar .byte x)) = some A') (hd : decode bytes pc = .ok (.bastore, 1))
    {pc' : Nat} (hp : pc + 1 = pc') (k : ∀ T', On p l e R s m args below meth c D Z n0 T' A' cells slots → Go p e below (T'.setTop (mkF m pc'  Ls st)) G) : Go p e below (T.setTop (mkF m pc Ls (.int x :: .int j :: .ref (n0 + a) :: st))) G := by
  subst hp
  obtain ⟨locs, X, N, RA⟩ := X
  obtain ⟨cl, h1, h2⟩ := RA.into (by decide) hp
  obtain ⟨T', h', X', e', W', stp⟩ := stB X K.1 K.2.1 rfl h1 h2 (g := mkF m pc Ls (.int x :: .int j :: .ref (n0 + a) :: st)) rfl rfl (dc K hd)
  exact go stp (k T' ⟨_, X', Fr.snoc X' N (Nat.le_add_right _ _), by rw [e']; exact RA.wrA (by decide) hp (fits_nar_byte _) W'⟩)
theorem ast3 (K : Cx p l e R s m meth c Z a0 W own nm bytes ml rt) (X : On p l e R s m args below meth c D Z n0 T A cells slots) {a : Nat} {j : Int32} {x : Int64} (hp : h_aset A 3 a j (.long x) = some A') (hd : decode bytes pc = .ok (.lastore, 1))
    {pc' : Nat} (hp : pc + 1 = pc') (k : ∀ T', On p l e R s m args below meth c D Z n0 T' A' cells slots → Go p e below (T'.setTop (mkF m pc'  Ls st)) G) : Go p e below (T.setTop (mkF m pc Ls (.long x :: .int j :: .ref (n0 + a) :: st))) G := by
  subst hp
  obtain ⟨locs, X, N, RA⟩ := X
  obtain ⟨cl, h1, h2⟩ := RA.into (by decide) hp
  obtain ⟨T', h', X', e', W', stp⟩ := stJ X K.1 K.2.1 rfl h1 h2 (g := mkF m pc Ls (.long x :: .int j :: .ref (n0 + a) :: st)) rfl rfl (dc K hd)
  exact go stp (k T' ⟨_, X', Fr.snoc X' N (Nat.le_add_right _ _), by rw [e']; exact RA.wrA (by decide) hp rfl W'⟩)
theorem ast4 (K : Cx p l e R s m meth c Z a0 W own nm bytes ml rt) (X : On p l e R s m args below meth c D Z n0 T A cells slots) {a : Nat} {j x : Int32} (hp : h_aset A 4 a j (.int (nar .boolean x)) = some A') (hd : decode bytes pc = .ok (.bastore, 1))
    {pc' : Nat} (hp : pc + 1 = pc') (k : ∀ T', On p l e R s m args below meth c D Z n0 T' A' cells slots → Go p e below (T'.setTop (mkF m pc'  Ls st)) G) : Go p e below (T.setTop (mkF m pc Ls (.int x :: .int j :: .ref (n0 + a) :: st))) G := by
  subst hp
  obtain ⟨locs, X, N, RA⟩ := X
  obtain ⟨cl, h1, h2⟩ := RA.into (by decide) hp
  obtain ⟨T', h', X', e', W', stp⟩ := stZ X K.1 K.2.1 rfl h1 h2 (g := mkF m pc Ls (.int x :: .int j :: .ref (n0 + a) :: st)) rfl rfl (dc K hd)
  exact go stp (k T' ⟨_, X', Fr.snoc X' N (Nat.le_add_right _ _), by rw [e']; exact RA.wrA (by decide) hp (fits_nar_bool _) W'⟩)
/-! calls -/
theorem obj (K : Cx p l e R s m meth c Z a0 W own nm bytes ml rt) (X : On p l e R s m args below meth c D Z n0 T A cells slots) {i1 i2 i3 idx w : Nat} {a : Addr} (w1 : W[i1]? = some (.methodLink own idx Lib.objectInit)) (w2 : W[i2]? = some (.instanceMethod Lib.objectInit)) (w3 : W[i3]? = some (.code Lib.objectInit ⟨#[0xb1]⟩ 1 none))
    (hd : decode bytes pc = .ok (.invokespecial idx, 3)) (hz : Ls.size = ml) (hf : 1 ≤ R.frames) (hw : (st.map fun v => v.category).sum ≤ w) (hl : w + 12 ≤ R.locals)
    {pc' : Nat} (hp : pc + 3 = pc') (k : ∀ T', On p l e R s m args below meth c D Z n0 T' A cells slots → Go p e below (T'.setTop (mkF m pc'  Ls st)) G) : Go p e below (T.setTop (mkF m pc Ls (.ref a :: st))) G := by
  subst hp
  obtain ⟨locs, X, N, RA⟩ := X
  obtain ⟨T', X', e', stp⟩ := initO X K.1 K.2.1 K.2.2.1 (wd K w1) (wd K w2) (wd K w3) rfl (g := mkF m pc Ls (.ref a :: st)) rfl (hz.trans K.2.2.2.2.1.symm) rfl (dc K hd) hf (W := w) (by simpa [JFrame.monitorRoom] using hw) hl
  exact go stp (k T' ⟨locs, X', N, by rw [e']; exact RA⟩)
theorem calls (K : Cx p l e R s m meth c Z a0 W own nm bytes ml rt) (X : On p l e R s m args below meth c D Z n0 T A cells slots) {i1 i2 i3 i4 idx w : Nat} {y : MethodName} {by' : ByteArray} {ml' : Nat} {rt' : Option FieldType} {rm : Room} {as : List Value} {r : Option Value} {S : List Value} {ps : List FieldType}
    (w1 : W[i1]? = some (.methodLink own idx y)) (w2 : W[i2]? = some (.static y)) (w3 : W[i3]? = some (.initialized y.cls)) (w4 : W[i4]? = some (.code y by' ml' rt')) (hy : y.cls ≠ "java/lang/invoke/MethodHandle" ∧ y.cls ≠ "java/lang/invoke/VarHandle")
    (M : Met l D Z n0 y by' ml' rt' rm as A r A') (hpd : parseMethodDescriptor y.desc = some ⟨ps, rt'⟩) (hlen : as.length = ps.length) (hd : decode bytes pc = .ok (.invokestatic idx, 3)) (hz : Ls.size = ml) (hS : S = as.reverse ++ st)
    (hf : rm.frames + 1 ≤ R.frames) (hw : (st.map fun v => v.category).sum ≤ w) (hl : w + (ml' + 11) + rm.locals ≤ R.locals) (hc : cells + rm.cells ≤ R.cells) (hs : slots + rm.slots ≤ R.slots)
    {pc' kc ks : Nat} {S' : List Value} (ec : cells + rm.cells = kc) (es : slots + rm.slots = ks) (hS' : r.toList ++ st = S') (hp : pc + 3 = pc') (k : ∀ T', On p l e R s m args below meth c D Z n0 T' A' kc ks → Go p e below (T'.setTop (mkF m pc' Ls S')) G) : Go p e below (T.setTop (mkF m pc Ls S)) G := by
  subst hp ec es hS'
  obtain ⟨locs, X, N, RA⟩ := X
  obtain ⟨v, vm, ⟨T', L', k', n'⟩, -, X', ⟨Lc, hQ, q1, q2, q3⟩, stp⟩ := Jvm.LawKit.callS X K.1 K.2.2.1 (mvT K.2.1 (wd K w1)) (mvT K.2.1 (wd K w2)) (mvT K.2.1 (wd K w3)) (mvT K.2.1 (wd K w4)) hy
    (backOf (W := w) (M [] T.heap RA) K.2.1 (wd K w4) (wd K w3) hf hl) (g := mkF m pc Ls S) rfl (hz.trans K.2.2.2.2.1.symm) (argsL := as) (rest := st) (lenOf hpd hlen) hS (by simpa [JFrame.monitorRoom] using hw) (dc K hd) (fun _ _ => ⟨rfl, rfl, hc, hs⟩)
  dsimp only [Pt.U, Pt.locs, Pt.cells, Pt.slots] at X' q1 q2 q3 hQ stp
  subst q1 q2 q3
  obtain ⟨rfl, N', RA'⟩ := hQ
  exact go stp (k T' ⟨_, X', Fr.app N N', RA'⟩)
theorem calli (K : Cx p l e R s m meth c Z a0 W own nm bytes ml rt) (X : On p l e R s m args below meth c D Z n0 T A cells slots) {i1 i2 i3 i4 idx w : Nat} {y : MethodName} {by' : ByteArray} {ml' : Nat} {rm : Room} {a : Addr} {as : List Value} {S : List Value} {ps : List FieldType}
    (w1 : W[i1]? = some (.methodLink own idx y)) (w2 : W[i2]? = some (.instanceMethod y)) (w3 : W[i3]? = some (.initialized y.cls)) (w4 : W[i4]? = some (.code y by' ml' none)) (hy1 : y.name = "<init>") (hy : y.cls ≠ "java/lang/invoke/MethodHandle" ∧ y.cls ≠ "java/lang/invoke/VarHandle")
    (M : Met l D Z n0 y by' ml' none rm (.ref a :: as) A none A') (hpd : parseMethodDescriptor y.desc = some ⟨ps, none⟩) (hlen : as.length = ps.length) (hd : decode bytes pc = .ok (.invokespecial idx, 3)) (hz : Ls.size = ml) (hS : S = as.reverse ++ .ref a :: st)
    (hf : rm.frames + 1 ≤ R.frames) (hw : (st.map fun v => v.category).sum ≤ w) (hl : w + (ml' + 11) + rm.locals ≤ R.locals) (hc : cells + rm.cells ≤ R.cells) (hs : slots + rm.slots ≤ R.slots)
    {pc' kc ks : Nat} (ec : cells + rm.cells = kc) (es : slots + rm.slots = ks) (hp : pc + 3 = pc') (k : ∀ T', On p l e R s m args below meth c D Z n0 T' A' kc ks → Go p e below (T'.setTop (mkF m pc'  Ls st)) G) : Go p e below (T.setTop (mkF m pc Ls S)) G := by
  subst hp ec es
  obtain ⟨locs, X, N, RA⟩ := X
  obtain ⟨v, vm, ⟨T', L', k', n'⟩, -, X', ⟨Lc, hQ, q1, q2, q3⟩, stp⟩ := X.specialBack K.1 hy1 K.2.2.1 (mvT K.2.1 (wd K w1)) (mvT K.2.1 (wd K w2)) (mvT K.2.1 (wd K w4)) hy
    (backOf (W := w) (M [] T.heap RA) K.2.1 (wd K w4) (wd K w3) hf hl) (g := mkF m pc Ls S) rfl (hz.trans K.2.2.2.2.1.symm) (Steps.refl _) (a := a) (argsL := as) (rest := st) (lenOf hpd hlen) hS (by simpa [JFrame.monitorRoom] using hw) (dc K hd) (fun _ _ => ⟨rfl, rfl, hc, hs⟩)
  dsimp only [Pt.U, Pt.locs, Pt.cells, Pt.slots] at X' q1 q2 q3 hQ stp
  subst q1 q2 q3
  obtain ⟨rfl, N', RA'⟩ := hQ
  exact go (fun _ q => stp.trans q) (k T' ⟨_, X', Fr.app N N', RA'⟩)
theorem callv (K : Cx p l e R s m meth c Z a0 W own nm bytes ml rt) (X : On p l e R s m args below meth c D Z n0 T A cells slots) {i1 i2 i3 i4 i5 i6 idx w t a : Nat} {u : Unit} {y : MethodName} {by' : ByteArray} {ml' : Nat} {rt' : Option FieldType} {rm : Room} {as : List Value} {r : Option Value} {S : List Value} {ps : List FieldType}
    (w1 : W[i1]? = some (.methodLink own idx y)) (w2 : W[i2]? = some (.declares y)) (w5 : W[i5]? = some (.selects (D t).1 y y)) (w6 : W[i6]? = some (.instanceMethod y)) (w3 : W[i3]? = some (.initialized y.cls)) (w4 : W[i4]? = some (.code y by' ml' rt')) (hy : y.cls ≠ "java/lang/invoke/MethodHandle" ∧ y.cls ≠ "java/lang/invoke/VarHandle")
    (ht : 10 ≤ t) (hA : h_isA A t a = some u) (M : Met l D Z n0 y by' ml' rt' rm (.ref (n0 + a) :: as) A r A') (hpd : parseMethodDescriptor y.desc = some ⟨ps, rt'⟩) (hlen : as.length = ps.length) (hd : decode bytes pc = .ok (.invokevirtual idx, 3)) (hz : Ls.size = ml) (hS : S = as.reverse ++ .ref (n0 + a) :: st)
    (hf : rm.frames + 1 ≤ R.frames) (hw : (st.map fun v => v.category).sum ≤ w) (hl : w + (ml' + 11) + rm.locals ≤ R.locals) (hc : cells + rm.cells ≤ R.cells) (hs : slots + rm.slots ≤ R.slots)
    {pc' kc ks : Nat} {S' : List Value} (ec : cells + rm.cells = kc) (es : slots + rm.slots = ks) (hS' : r.toList ++ st = S') (hp : pc + 3 = pc') (k : ∀ T', On p l e R s m args below meth c D Z n0 T' A' kc ks → Go p e below (T'.setTop (mkF m pc' Ls S')) G) : Go p e below (T.setTop (mkF m pc Ls S)) G := by
  subst hp ec es hS'
  obtain ⟨locs, X, N, RA⟩ := X
  obtain ⟨vs, hA⟩ := isA_s hA
  obtain ⟨cq, kq, q1, q2, q3⟩ := isOf K.2.1 rfl (RA.exa ht hA)
  obtain ⟨v, vm, ⟨T', L', k', n'⟩, -, X', ⟨Lc, hQ, q1, q2, q3⟩, stp⟩ := X.virtualBack K.1 (y := y) (z := y) K.2.2.1 (mvT K.2.1 (wd K w1)) (mvT K.2.1 (wd K w2)) (notFace_of_selects (args := #[]) (mvT K.2.1 (wd K w5))) (mvT K.2.1 (wd K w5)) (mvT K.2.1 (wd K w6)) hy
    (backOf (W := w) (M [] T.heap RA) K.2.1 (wd K w4) (wd K w3) hf hl) q1 q3 (g := mkF m pc Ls S) rfl (hz.trans K.2.2.2.2.1.symm) (Steps.refl _) (argsL := as) (rest := st) (lenOf hpd hlen) hS (by simpa [JFrame.monitorRoom] using hw) (dc K hd) (fun _ _ => ⟨rfl, rfl, hc, hs⟩)
  dsimp only [Pt.U, Pt.locs, Pt.cells, Pt.slots] at X' q1 q2 q3 hQ stp
  subst q1 q2 q3
  obtain ⟨rfl, N', RA'⟩ := hQ
  exact go (fun _ q => stp.trans q) (k T' ⟨_, X', Fr.app N N', RA'⟩)
theorem callp (K : Cx p l e R s m meth c Z a0 W own nm bytes ml rt) (X : On p l e R s m args below meth c D Z n0 T A cells slots) {i1 i2 i3 i4 i5 i6 idx w t a kk : Nat} {u : Unit} {y : MethodName} {by' : ByteArray} {ml' : Nat} {rt' : Option FieldType} {rm : Room} {as : List Value} {r : Option Value} {S : List Value} {ps : List FieldType}
    (w1 : W[i1]? = some (.methodLink own idx y)) (w2 : W[i2]? = some (.privateMethod y)) (w5 : W[i5]? = some (.instantiable y.cls kk)) (w6 : W[i6]? = some (.instanceMethod y)) (w3 : W[i3]? = some (.initialized y.cls)) (w4 : W[i4]? = some (.code y by' ml' rt')) (hy : y.cls ≠ "java/lang/invoke/MethodHandle" ∧ y.cls ≠ "java/lang/invoke/VarHandle")
    (ht : 10 ≤ t) (hA : h_isA A t a = some u) (M : Met l D Z n0 y by' ml' rt' rm (.ref (n0 + a) :: as) A r A') (hpd : parseMethodDescriptor y.desc = some ⟨ps, rt'⟩) (hlen : as.length = ps.length) (hd : decode bytes pc = .ok (.invokevirtual idx, 3)) (hz : Ls.size = ml) (hS : S = as.reverse ++ .ref (n0 + a) :: st)
    (hf : rm.frames + 1 ≤ R.frames) (hw : (st.map fun v => v.category).sum ≤ w) (hl : w + (ml' + 11) + rm.locals ≤ R.locals) (hc : cells + rm.cells ≤ R.cells) (hs : slots + rm.slots ≤ R.slots)
    {pc' kc ks : Nat} {S' : List Value} (ec : cells + rm.cells = kc) (es : slots + rm.slots = ks) (hS' : r.toList ++ st = S') (hp : pc + 3 = pc') (k : ∀ T', On p l e R s m args below meth c D Z n0 T' A' kc ks → Go p e below (T'.setTop (mkF m pc' Ls S')) G) : Go p e below (T.setTop (mkF m pc Ls S)) G := by
  subst hp ec es hS'
  obtain ⟨locs, X, N, RA⟩ := X
  obtain ⟨vs, hA⟩ := isA_s hA
  obtain ⟨cq, q1, q2⟩ := (RA.exa ht hA).cell
  have wi : (Jvm.Cond.instantiable y.cls kk).before #[] s = true := mvT K.2.1 (wd K w5)
  obtain ⟨c0, k0, i1, i2, i3, i4, -⟩ := Cond.instantiable_spec wi
  have hni : k0.isInterface = false := (Bool.or_eq_false_iff.mp i4).1
  have hpr : s.PrivateAt y := Cond.privateMethod_at (mvP K.2.1 (wd K w2) (args := #[]))
  have hin : (Jvm.Cond.instanceMethod y).before args s = true := mvT K.2.1 (wd K w6)
  obtain ⟨v, vm, ⟨T', L', k', n'⟩, -, X', ⟨Lc, hQ, q1, q2, q3⟩, stp⟩ := X.privateBack K.1 (y := y) K.2.2.1 (mvT K.2.1 (wd K w1)) hin (selects_self_of_private i1 i2 hni hpr hin hy) hpr (mvT K.2.1 (wd K w4)) hy
    (backOf (W := w) (M [] T.heap RA) K.2.1 (wd K w4) (wd K w3) hf hl) (g := mkF m pc Ls S) rfl (hz.trans K.2.2.2.2.1.symm) (Steps.refl _) (a := n0 + a) q1 q2 (argsL := as) (rest := st) (lenOf hpd hlen) hS (by simpa [JFrame.monitorRoom] using hw) (dc K hd) (fun _ _ => ⟨rfl, rfl, hc, hs⟩)
  dsimp only [Pt.U, Pt.locs, Pt.cells, Pt.slots] at X' q1 q2 q3 hQ stp
  subst q1 q2 q3
  obtain ⟨rfl, N', RA'⟩ := hQ
  exact go (fun _ q => stp.trans q) (k T' ⟨_, X', Fr.app N N', RA'⟩)
/-! a body by its blocks -/
theorem met {y : MethodName} {as : List Value} {r : Option Value} {L0 : Array Slot} (hp : plainFor y = true) (hw : ∀ d ∈ W, d.before a0 Z = true) (hn : y.cls = own) (hnn : y.name = nm) (hef : ∀ m, entryFrame m as.toArray ml = mkF m 0 L0 [])
    (hb : ∀ (p : Program) (e : Env) (s : State) (m : MethodId) (below : List Frame) (meth : Method) (c : Code) (T : State), Cx p l e R s m meth c Z a0 W own nm bytes ml rt → On p l e R s m as.toArray below meth c D Z n0 T A 0 0 → Go p e below (T.setTop (mkF m 0 L0 [])) (Fini D Z n0 s R r A')) :
    Met l D Z n0 y bytes ml rt R as A r A' := by
  intro ws h0 RA
  refine MetFree.of_bodySF hp hisR ?_
  intro p e s m args below meth c s₁ Bd hml0 hP hK
  obtain ⟨rfl, hZ, hh⟩ := hP
  have hown : s.vm.findClass own = some m.cls := hn ▸ findClass_of_methodNamed Bd.named
  have hnm := (name_of_methodNamed Bd.named Bd.method).1
  have X0 : Stand p l e R s m as.toArray below meth c s₁ [] 0 0 := Stand.of_body Bd
  have e0 : s₁.heap = h0 := by rw [← hh, Bd.state]; rfl
  have := hb p e s m below meth c s₁ ⟨Bd.exec, hZ, hown, Bd.bytes, hml0, Bd.returns, Bd.notSynchronized, hnm.trans hnn, hw⟩ ⟨[], X0, Fr.nil n0, by rw [e0]; exact RA⟩
  obtain ⟨t, o, h1, h2, h3, h4⟩ := this
  exact ⟨t, o, castTop (hef m) h1, h2, h3, h4⟩
end Walk
end Jvm.OwnKit
namespace Jvm.OwnKit
open Sem ClassFile Op Lib Jvm.Stand Jvm.Free Jvm.LawKit Jvm.RoadKit
section Instr
variable {p : Program} {l : Launch} {e : Env} {R : Room} {s : State} {m : MethodId} {args : Array Value} {below : List Frame} {meth : Method} {c : Code} {Z : State} {a0 : Array Value} {W : List Jvm.Cond} {own nm : String} {bytes : ByteArray} {ml : Nat} {rt : Option FieldType} {D : Dic} {n0 : Nat} {T : State} {A A' : AH} {cells slots : Nat} {G : Outcome → State → Prop} {pc : Nat} {Ls : Array Slot} {st : List Value}
theorem i_iadd (K : Cx p l e R s m meth c Z a0 W own nm bytes ml rt) (X : On p l e R s m args below meth c D Z n0 T A cells slots) {x y : Int32} {pc' : Nat} (hd : decode bytes pc = .ok (.iadd, 1)) (hp : pc + 1 = pc')
    (k : Go p e below (T.setTop (mkF m pc' Ls (.int (x + y) :: st))) G) : Go p e below (T.setTop (mkF m pc Ls (.int y :: .int x :: st))) G := by
  subst hp; exact go (fun _ => XS.iadd X.here K.1 (g := mkF m pc Ls (.int y :: .int x :: st)) rfl (dc K hd) rfl) k
theorem i_isub (K : Cx p l e R s m meth c Z a0 W own nm bytes ml rt) (X : On p l e R s m args below meth c D Z n0 T A cells slots) {x y : Int32} {pc' : Nat} (hd : decode bytes pc = .ok (.isub, 1)) (hp : pc + 1 = pc')
    (k : Go p e below (T.setTop (mkF m pc' Ls (.int (x - y) :: st))) G) : Go p e below (T.setTop (mkF m pc Ls (.int y :: .int x :: st))) G := by
  subst hp; exact go (fun _ => XS.isub X.here K.1 (g := mkF m pc Ls (.int y :: .int x :: st)) rfl (dc K hd) rfl) k
theorem i_imul (K : Cx p l e R s m meth c Z a0 W own nm bytes ml rt) (X : On p l e R s m args below meth c D Z n0 T A cells slots) {x y : Int32} {pc' : Nat} (hd : decode bytes pc = .ok (.imul, 1)) (hp : pc + 1 = pc')
    (k : Go p e below (T.setTop (mkF m pc' Ls (.int (x * y) :: st))) G) : Go p e below (T.setTop (mkF m pc Ls (.int y :: .int x :: st))) G := by
  subst hp; exact go (fun _ => XS.imul X.here K.1 (g := mkF m pc Ls (.int y :: .int x :: st)) rfl (dc K hd) rfl) k
theorem i_iand (K : Cx p l e R s m meth c Z a0 W own nm bytes ml rt) (X : On p l e R s m args below meth c D Z n0 T A cells slots) {x y : Int32} {pc' : Nat} (hd : decode bytes pc = .ok (.iand, 1)) (hp : pc + 1 = pc')
    (k : Go p e below (T.setTop (mkF m pc' Ls (.int (x &&& y) :: st))) G) : Go p e below (T.setTop (mkF m pc Ls (.int y :: .int x :: st))) G := by
  subst hp; exact go (fun _ => XS.iand X.here K.1 (g := mkF m pc Ls (.int y :: .int x :: st)) rfl (dc K hd) rfl) k
theorem i_ior (K : Cx p l e R s m meth c Z a0 W own nm bytes ml rt) (X : On p l e R s m args below meth c D Z n0 T A cells slots) {x y : Int32} {pc' : Nat} (hd : decode bytes pc = .ok (.ior, 1)) (hp : pc + 1 = pc')
    (k : Go p e below (T.setTop (mkF m pc' Ls (.int (x ||| y) :: st))) G) : Go p e below (T.setTop (mkF m pc Ls (.int y :: .int x :: st))) G := by
  subst hp; exact go (fun _ => XS.ior X.here K.1 (g := mkF m pc Ls (.int y :: .int x :: st)) rfl (dc K hd) rfl) k
theorem i_ixor (K : Cx p l e R s m meth c Z a0 W own nm bytes ml rt) (X : On p l e R s m args below meth c D Z n0 T A cells slots) {x y : Int32} {pc' : Nat} (hd : decode bytes pc = .ok (.ixor, 1)) (hp : pc + 1 = pc')
    (k : Go p e below (T.setTop (mkF m pc' Ls (.int (x ^^^ y) :: st))) G) : Go p e below (T.setTop (mkF m pc Ls (.int y :: .int x :: st))) G := by
  subst hp; exact go (fun _ => XS.ixor X.here K.1 (g := mkF m pc Ls (.int y :: .int x :: st)) rfl (dc K hd) rfl) k
theorem i_ishl (K : Cx p l e R s m meth c Z a0 W own nm bytes ml rt) (X : On p l e R s m args below meth c D Z n0 T A cells slots) {x y : Int32} {pc' : Nat} (hd : decode bytes pc = .ok (.ishl, 1)) (hp : pc + 1 = pc')
    (k : Go p e below (T.setTop (mkF m pc' Ls (.int (x <<< (y &&& 31)) :: st))) G) : Go p e below (T.setTop (mkF m pc Ls (.int y :: .int x :: st))) G := by
  subst hp; exact go (fun _ => XS.ishl X.here K.1 (g := mkF m pc Ls (.int y :: .int x :: st)) rfl (dc K hd) rfl) k
theorem i_ishr (K : Cx p l e R s m meth c Z a0 W own nm bytes ml rt) (X : On p l e R s m args below meth c D Z n0 T A cells slots) {x y : Int32} {pc' : Nat} (hd : decode bytes pc = .ok (.ishr, 1)) (hp : pc + 1 = pc')
    (k : Go p e below (T.setTop (mkF m pc' Ls (.int (x >>> (y &&& 31)) :: st))) G) : Go p e below (T.setTop (mkF m pc Ls (.int y :: .int x :: st))) G := by
  subst hp; exact go (fun _ => XS.ishr X.here K.1 (g := mkF m pc Ls (.int y :: .int x :: st)) rfl (dc K hd) rfl) k
theorem i_iushr (K : Cx p l e R s m meth c Z a0 W own nm bytes ml rt) (X : On p l e R s m args below meth c D Z n0 T A cells slots) {x y : Int32} {pc' : Nat} (hd : decode bytes pc = .ok (.iushr, 1)) (hp : pc + 1 = pc')
    (k : Go p e below (T.setTop (mkF m pc' Ls (.int ((x.toUInt32 >>> (y &&& 31).toUInt32).toInt32) :: st))) G) : Go p e below (T.setTop (mkF m pc Ls (.int y :: .int x :: st))) G := by
  subst hp; exact go (fun _ => XS.iushr X.here K.1 (g := mkF m pc Ls (.int y :: .int x :: st)) rfl (dc K hd) rfl) k
theorem i_idiv (K : Cx p l e R s m meth c Z a0 W own nm bytes ml rt) (X : On p l e R s m args below meth c D Z n0 T A cells slots) {x y : Int32} {pc' : Nat} (hd : decode bytes pc = .ok (.idiv, 1)) (hp : pc + 1 = pc') (hy : y ≠ 0)
    (k : Go p e below (T.setTop (mkF m pc' Ls (.int (x / y) :: st))) G) : Go p e below (T.setTop (mkF m pc Ls (.int y :: .int x :: st))) G := by
  subst hp; exact go (fun _ => XS.idiv X.here K.1 (g := mkF m pc Ls (.int y :: .int x :: st)) rfl (dc K hd) rfl hy) k
theorem i_irem (K : Cx p l e R s m meth c Z a0 W own nm bytes ml rt) (X : On p l e R s m args below meth c D Z n0 T A cells slots) {x y : Int32} {pc' : Nat} (hd : decode bytes pc = .ok (.irem, 1)) (hp : pc + 1 = pc') (hy : y ≠ 0)
    (k : Go p e below (T.setTop (mkF m pc' Ls (.int (x % y) :: st))) G) : Go p e below (T.setTop (mkF m pc Ls (.int y :: .int x :: st))) G := by
  subst hp; rw [← irem_eq_mod] at k; exact go (fun _ => XS.irem X.here K.1 (g := mkF m pc Ls (.int y :: .int x :: st)) rfl (dc K hd) rfl hy) k
theorem i_ladd (K : Cx p l e R s m meth c Z a0 W own nm bytes ml rt) (X : On p l e R s m args below meth c D Z n0 T A cells slots) {x y : Int64} {pc' : Nat} (hd : decode bytes pc = .ok (.ladd, 1)) (hp : pc + 1 = pc')
    (k : Go p e below (T.setTop (mkF m pc' Ls (.long (x + y) :: st))) G) : Go p e below (T.setTop (mkF m pc Ls (.long y :: .long x :: st))) G := by
  subst hp; exact go (fun _ => XS.ladd X.here K.1 (g := mkF m pc Ls (.long y :: .long x :: st)) rfl (dc K hd) rfl) k
theorem i_lsub (K : Cx p l e R s m meth c Z a0 W own nm bytes ml rt) (X : On p l e R s m args below meth c D Z n0 T A cells slots) {x y : Int64} {pc' : Nat} (hd : decode bytes pc = .ok (.lsub, 1)) (hp : pc + 1 = pc')
    (k : Go p e below (T.setTop (mkF m pc' Ls (.long (x - y) :: st))) G) : Go p e below (T.setTop (mkF m pc Ls (.long y :: .long x :: st))) G := by
  subst hp; exact go (fun _ => XS.lsub X.here K.1 (g := mkF m pc Ls (.long y :: .long x :: st)) rfl (dc K hd) rfl) k
theorem i_lmul (K : Cx p l e R s m meth c Z a0 W own nm bytes ml rt) (X : On p l e R s m args below meth c D Z n0 T A cells slots) {x y : Int64} {pc' : Nat} (hd : decode bytes pc = .ok (.lmul, 1)) (hp : pc + 1 = pc')
    (k : Go p e below (T.setTop (mkF m pc' Ls (.long (x * y) :: st))) G) : Go p e below (T.setTop (mkF m pc Ls (.long y :: .long x :: st))) G := by
  subst hp; exact go (fun _ => XS.lmul X.here K.1 (g := mkF m pc Ls (.long y :: .long x :: st)) rfl (dc K hd) rfl) k
theorem i_land (K : Cx p l e R s m meth c Z a0 W own nm bytes ml rt) (X : On p l e R s m args below meth c D Z n0 T A cells slots) {x y : Int64} {pc' : Nat} (hd : decode bytes pc = .ok (.land, 1)) (hp : pc + 1 = pc')
    (k : Go p e below (T.setTop (mkF m pc' Ls (.long (x &&& y) :: st))) G) : Go p e below (T.setTop (mkF m pc Ls (.long y :: .long x :: st))) G := by
  subst hp; exact go (fun _ => XS.land X.here K.1 (g := mkF m pc Ls (.long y :: .long x :: st)) rfl (dc K hd) rfl) k
theorem i_lor (K : Cx p l e R s m meth c Z a0 W own nm bytes ml rt) (X : On p l e R s m args below meth c D Z n0 T A cells slots) {x y : Int64} {pc' : Nat} (hd : decode bytes pc = .ok (.lor, 1)) (hp : pc + 1 = pc')
    (k : Go p e below (T.setTop (mkF m pc' Ls (.long (x ||| y) :: st))) G) : Go p e below (T.setTop (mkF m pc Ls (.long y :: .long x :: st))) G := by
  subst hp; exact go (fun _ => XS.lor X.here K.1 (g := mkF m pc Ls (.long y :: .long x :: st)) rfl (dc K hd) rfl) k
theorem i_lxor (K : Cx p l e R s m meth c Z a0 W own nm bytes ml rt) (X : On p l e R s m args below meth c D Z n0 T A cells slots) {x y : Int64} {pc' : Nat} (hd : decode bytes pc = .ok (.lxor, 1)) (hp : pc + 1 = pc')
    (k : Go p e below (T.setTop (mkF m pc' Ls (.long (x ^^^ y) :: st))) G) : Go p e below (T.setTop (mkF m pc Ls (.long y :: .long x :: st))) G := by
  subst hp; exact go (fun _ => XS.lxor X.here K.1 (g := mkF m pc Ls (.long y :: .long x :: st)) rfl (dc K hd) rfl) k
theorem i_lshl (K : Cx p l e R s m meth c Z a0 W own nm bytes ml rt) (X : On p l e R s m args below meth c D Z n0 T A cells slots) {x : Int64} {y : Int32} {pc' : Nat} (hd : decode bytes pc = .ok (.lshl, 1)) (hp : pc + 1 = pc')
    (k : Go p e below (T.setTop (mkF m pc' Ls (.long (x <<< (y &&& 0x3f).toInt64) :: st))) G) : Go p e below (T.setTop (mkF m pc Ls (.int y :: .long x :: st))) G := by
  subst hp; exact go (fun _ => XS.lshl X.here K.1 (g := mkF m pc Ls (.int y :: .long x :: st)) rfl (dc K hd) rfl) k
theorem i_lshr (K : Cx p l e R s m meth c Z a0 W own nm bytes ml rt) (X : On p l e R s m args below meth c D Z n0 T A cells slots) {x : Int64} {y : Int32} {pc' : Nat} (hd : decode bytes pc = .ok (.lshr, 1)) (hp : pc + 1 = pc')
    (k : Go p e below (T.setTop (mkF m pc' Ls (.long (x >>> (y &&& 0x3f).toInt64) :: st))) G) : Go p e below (T.setTop (mkF m pc Ls (.int y :: .long x :: st))) G := by
  subst hp; exact go (fun _ => XS.lshr X.here K.1 (g := mkF m pc Ls (.int y :: .long x :: st)) rfl (dc K hd) rfl) k
theorem i_lushr (K : Cx p l e R s m meth c Z a0 W own nm bytes ml rt) (X : On p l e R s m args below meth c D Z n0 T A cells slots) {x : Int64} {y : Int32} {pc' : Nat} (hd : decode bytes pc = .ok (.lushr, 1)) (hp : pc + 1 = pc')
    (k : Go p e below (T.setTop (mkF m pc' Ls (.long ((x.toUInt64 >>> (y &&& 0x3f).toInt64.toUInt64).toInt64) :: st))) G) : Go p e below (T.setTop (mkF m pc Ls (.int y :: .long x :: st))) G := by
  subst hp; exact go (fun _ => XS.lushr X.here K.1 (g := mkF m pc Ls (.int y :: .long x :: st)) rfl (dc K hd) rfl) k
theorem i_ldiv (K : Cx p l e R s m meth c Z a0 W own nm bytes ml rt) (X : On p l e R s m args below meth c D Z n0 T A cells slots) {x y : Int64} {pc' : Nat} (hd : decode bytes pc = .ok (.ldiv, 1)) (hp : pc + 1 = pc') (hy : y ≠ 0)
    (k : Go p e below (T.setTop (mkF m pc' Ls (.long (x / y) :: st))) G) : Go p e below (T.setTop (mkF m pc Ls (.long y :: .long x :: st))) G := by
  subst hp; exact go (fun _ => XS.ldiv X.here K.1 (g := mkF m pc Ls (.long y :: .long x :: st)) rfl (dc K hd) rfl hy) k
theorem i_lrem (K : Cx p l e R s m meth c Z a0 W own nm bytes ml rt) (X : On p l e R s m args below meth c D Z n0 T A cells slots) {x y : Int64} {pc' : Nat} (hd : decode bytes pc = .ok (.lrem, 1)) (hp : pc + 1 = pc') (hy : y ≠ 0)
    (k : Go p e below (T.setTop (mkF m pc' Ls (.long (x - (x / y) * y) :: st))) G) : Go p e below (T.setTop (mkF m pc Ls (.long y :: .long x :: st))) G := by
  subst hp; exact go (fun _ => XS.lrem X.here K.1 (g := mkF m pc Ls (.long y :: .long x :: st)) rfl (dc K hd) rfl hy) k
theorem i_ineg (K : Cx p l e R s m meth c Z a0 W own nm bytes ml rt) (X : On p l e R s m args below meth c D Z n0 T A cells slots) {x : Int32} {pc' : Nat} (hd : decode bytes pc = .ok (.ineg, 1)) (hp : pc + 1 = pc')
    (k : Go p e below (T.setTop (mkF m pc' Ls (.int (-x) :: st))) G) : Go p e below (T.setTop (mkF m pc Ls (.int x :: st))) G := by
  subst hp; exact go (fun _ => XS.ineg X.here K.1 (g := mkF m pc Ls (.int x :: st)) rfl (dc K hd) rfl) k
theorem i_lneg (K : Cx p l e R s m meth c Z a0 W own nm bytes ml rt) (X : On p l e R s m args below meth c D Z n0 T A cells slots) {x : Int64} {pc' : Nat} (hd : decode bytes pc = .ok (.lneg, 1)) (hp : pc + 1 = pc')
    (k : Go p e below (T.setTop (mkF m pc' Ls (.long (-x) :: st))) G) : Go p e below (T.setTop (mkF m pc Ls (.long x :: st))) G := by
  subst hp; exact go (fun _ => XS.lneg X.here K.1 (g := mkF m pc Ls (.long x :: st)) rfl (dc K hd) rfl) k
theorem i_i2b (K : Cx p l e R s m meth c Z a0 W own nm bytes ml rt) (X : On p l e R s m args below meth c D Z n0 T A cells slots) {x : Int32} {pc' : Nat} (hd : decode bytes pc = .ok (.i2b, 1)) (hp : pc + 1 = pc')
    (k : Go p e below (T.setTop (mkF m pc' Ls (.int (x.toInt8.toInt32) :: st))) G) : Go p e below (T.setTop (mkF m pc Ls (.int x :: st))) G := by
  subst hp; exact go (fun _ => XS.i2b X.here K.1 (g := mkF m pc Ls (.int x :: st)) rfl (dc K hd) rfl) k
theorem i_i2c (K : Cx p l e R s m meth c Z a0 W own nm bytes ml rt) (X : On p l e R s m args below meth c D Z n0 T A cells slots) {x : Int32} {pc' : Nat} (hd : decode bytes pc = .ok (.i2c, 1)) (hp : pc + 1 = pc')
    (k : Go p e below (T.setTop (mkF m pc' Ls (.int (x.toUInt32.toUInt16.toUInt32.toInt32) :: st))) G) : Go p e below (T.setTop (mkF m pc Ls (.int x :: st))) G := by
  subst hp; exact go (fun _ => XS.i2c X.here K.1 (g := mkF m pc Ls (.int x :: st)) rfl (dc K hd) rfl) k
theorem i_i2s (K : Cx p l e R s m meth c Z a0 W own nm bytes ml rt) (X : On p l e R s m args below meth c D Z n0 T A cells slots) {x : Int32} {pc' : Nat} (hd : decode bytes pc = .ok (.i2s, 1)) (hp : pc + 1 = pc')
    (k : Go p e below (T.setTop (mkF m pc' Ls (.int (x.toInt16.toInt32) :: st))) G) : Go p e below (T.setTop (mkF m pc Ls (.int x :: st))) G := by
  subst hp; exact go (fun _ => XS.i2s X.here K.1 (g := mkF m pc Ls (.int x :: st)) rfl (dc K hd) rfl) k
theorem i_i2l (K : Cx p l e R s m meth c Z a0 W own nm bytes ml rt) (X : On p l e R s m args below meth c D Z n0 T A cells slots) {x : Int32} {pc' : Nat} (hd : decode bytes pc = .ok (.i2l, 1)) (hp : pc + 1 = pc')
    (k : Go p e below (T.setTop (mkF m pc' Ls (.long (x.toInt64) :: st))) G) : Go p e below (T.setTop (mkF m pc Ls (.int x :: st))) G := by
  subst hp; exact go (fun _ => XS.i2l X.here K.1 (g := mkF m pc Ls (.int x :: st)) rfl (dc K hd) rfl) k
theorem i_l2i (K : Cx p l e R s m meth c Z a0 W own nm bytes ml rt) (X : On p l e R s m args below meth c D Z n0 T A cells slots) {x : Int64} {pc' : Nat} (hd : decode bytes pc = .ok (.l2i, 1)) (hp : pc + 1 = pc')
    (k : Go p e below (T.setTop (mkF m pc' Ls (.int (x.toInt32) :: st))) G) : Go p e below (T.setTop (mkF m pc Ls (.long x :: st))) G := by
  subst hp; exact go (fun _ => XS.l2i X.here K.1 (g := mkF m pc Ls (.long x :: st)) rfl (dc K hd) rfl) k
theorem i_lcmp (K : Cx p l e R s m meth c Z a0 W own nm bytes ml rt) (X : On p l e R s m args below meth c D Z n0 T A cells slots) {x y : Int64} {pc' : Nat} (hd : decode bytes pc = .ok (.lcmp, 1)) (hp : pc + 1 = pc')
    (k : Go p e below (T.setTop (mkF m pc' Ls (.int (lcmpW x y) :: st))) G) : Go p e below (T.setTop (mkF m pc Ls (.long y :: .long x :: st))) G := by
  subst hp; exact go (fun _ => XS.lcmp X.here K.1 (g := mkF m pc Ls (.long y :: .long x :: st)) rfl (dc K hd) rfl) k
theorem i_pop (K : Cx p l e R s m meth c Z a0 W own nm bytes ml rt) (X : On p l e R s m args below meth c D Z n0 T A cells slots) {x : Value} {pc' : Nat} (hd : decode bytes pc = .ok (.pop, 1)) (hp : pc + 1 = pc') (h1 : x.category = 1)
    (k : Go p e below (T.setTop (mkF m pc' Ls (st))) G) : Go p e below (T.setTop (mkF m pc Ls (x :: st))) G := by
  subst hp; exact go (fun _ => XS.pop X.here K.1 (g := mkF m pc Ls (x :: st)) rfl (dc K hd) rfl h1) k
theorem i_dup (K : Cx p l e R s m meth c Z a0 W own nm bytes ml rt) (X : On p l e R s m args below meth c D Z n0 T A cells slots) {x : Value} {pc' : Nat} (hd : decode bytes pc = .ok (.dup, 1)) (hp : pc + 1 = pc') (h1 : x.category = 1)
    (k : Go p e below (T.setTop (mkF m pc' Ls (x :: x :: st))) G) : Go p e below (T.setTop (mkF m pc Ls (x :: st))) G := by
  subst hp; exact go (fun _ => XS.dup X.here K.1 (g := mkF m pc Ls (x :: st)) rfl (dc K hd) rfl h1) k
theorem i_dupX1 (K : Cx p l e R s m meth c Z a0 W own nm bytes ml rt) (X : On p l e R s m args below meth c D Z n0 T A cells slots) {x y : Value} {pc' : Nat} (hd : decode bytes pc = .ok (.dup_x1, 1)) (hp : pc + 1 = pc') (h1 : x.category = 1) (h2 : y.category = 1)
    (k : Go p e below (T.setTop (mkF m pc' Ls (x :: y :: x :: st))) G) : Go p e below (T.setTop (mkF m pc Ls (x :: y :: st))) G := by
  subst hp; exact go (fun _ => XS.dupX1 X.here K.1 (g := mkF m pc Ls (x :: y :: st)) rfl (dc K hd) rfl h1 h2) k
theorem i_swap (K : Cx p l e R s m meth c Z a0 W own nm bytes ml rt) (X : On p l e R s m args below meth c D Z n0 T A cells slots) {x y : Value} {pc' : Nat} (hd : decode bytes pc = .ok (.swap, 1)) (hp : pc + 1 = pc') (h1 : x.category = 1) (h2 : y.category = 1)
    (k : Go p e below (T.setTop (mkF m pc' Ls (y :: x :: st))) G) : Go p e below (T.setTop (mkF m pc Ls (x :: y :: st))) G := by
  subst hp; exact go (fun _ => XS.swap X.here K.1 (g := mkF m pc Ls (x :: y :: st)) rfl (dc K hd) rfl h1 h2) k
theorem i_iload (K : Cx p l e R s m meth c Z a0 W own nm bytes ml rt) (X : On p l e R s m args below meth c D Z n0 T A cells slots) {v : Int32} {i : Nat} {pc' : Nat} (hd : decode bytes pc = .ok (.iload i, 2)) (hp : pc + 2 = pc') (hl : Ls[i]? = some (.val (.int v)))
    (k : Go p e below (T.setTop (mkF m pc' Ls (.int v :: st))) G) : Go p e below (T.setTop (mkF m pc Ls (st))) G := by
  subst hp; exact go (fun _ => XS.iload X.here K.1 (g := mkF m pc Ls (st)) rfl (dc K hd) hl) k
theorem i_iloadN (K : Cx p l e R s m meth c Z a0 W own nm bytes ml rt) (X : On p l e R s m args below meth c D Z n0 T A cells slots) {v : Int32} {i : Fin 4} {pc' : Nat} (hd : decode bytes pc = .ok (.iload_n i, 1)) (hp : pc + 1 = pc') (hl : Ls[i.val]? = some (.val (.int v)))
    (k : Go p e below (T.setTop (mkF m pc' Ls (.int v :: st))) G) : Go p e below (T.setTop (mkF m pc Ls (st))) G := by
  subst hp; exact go (fun _ => XS.iloadN X.here K.1 (g := mkF m pc Ls (st)) rfl (dc K hd) hl) k
theorem i_lload (K : Cx p l e R s m meth c Z a0 W own nm bytes ml rt) (X : On p l e R s m args below meth c D Z n0 T A cells slots) {v : Int64} {i : Nat} {pc' : Nat} (hd : decode bytes pc = .ok (.lload i, 2)) (hp : pc + 2 = pc') (hl : Ls[i]? = some (.val (.long v)))
    (k : Go p e below (T.setTop (mkF m pc' Ls (.long v :: st))) G) : Go p e below (T.setTop (mkF m pc Ls (st))) G := by
  subst hp; exact go (fun _ => XS.lload X.here K.1 (g := mkF m pc Ls (st)) rfl (dc K hd) hl) k
theorem i_lloadN (K : Cx p l e R s m meth c Z a0 W own nm bytes ml rt) (X : On p l e R s m args below meth c D Z n0 T A cells slots) {v : Int64} {i : Fin 4} {pc' : Nat} (hd : decode bytes pc = .ok (.lload_n i, 1)) (hp : pc + 1 = pc') (hl : Ls[i.val]? = some (.val (.long v)))
    (k : Go p e below (T.setTop (mkF m pc' Ls (.long v :: st))) G) : Go p e below (T.setTop (mkF m pc Ls (st))) G := by
  subst hp; exact go (fun _ => XS.lloadN X.here K.1 (g := mkF m pc Ls (st)) rfl (dc K hd) hl) k
theorem i_aload (K : Cx p l e R s m meth c Z a0 W own nm bytes ml rt) (X : On p l e R s m args below meth c D Z n0 T A cells slots) {v : Value} {i : Nat} {pc' : Nat} (hd : decode bytes pc = .ok (.aload i, 2)) (hp : pc + 2 = pc') (hl : Ls[i]? = some (.val v)) (hv : v.isRef = true)
    (k : Go p e below (T.setTop (mkF m pc' Ls (v :: st))) G) : Go p e below (T.setTop (mkF m pc Ls (st))) G := by
  subst hp; exact go (fun _ => XS.aload X.here K.1 (g := mkF m pc Ls (st)) rfl (dc K hd) hl hv) k
theorem i_aloadN (K : Cx p l e R s m meth c Z a0 W own nm bytes ml rt) (X : On p l e R s m args below meth c D Z n0 T A cells slots) {v : Value} {i : Fin 4} {pc' : Nat} (hd : decode bytes pc = .ok (.aload_n i, 1)) (hp : pc + 1 = pc') (hl : Ls[i.val]? = some (.val v)) (hv : v.isRef = true)
    (k : Go p e below (T.setTop (mkF m pc' Ls (v :: st))) G) : Go p e below (T.setTop (mkF m pc Ls (st))) G := by
  subst hp; exact go (fun _ => XS.aloadN X.here K.1 (g := mkF m pc Ls (st)) rfl (dc K hd) hl hv) k
theorem i_istore (K : Cx p l e R s m meth c Z a0 W own nm bytes ml rt) (X : On p l e R s m args below meth c D Z n0 T A cells slots) {v : Int32} {i : Nat} {Ls' : Array Slot} {pc' : Nat} (hd : decode bytes pc = .ok (.istore i, 2)) (hp : pc + 2 = pc') (hl : storeLocals Ls i (.int v) = some Ls')
    (k : Go p e below (T.setTop (mkF m pc' Ls' (st))) G) : Go p e below (T.setTop (mkF m pc Ls (.int v :: st))) G := by
  subst hp; exact go (fun _ => XS.istore X.here K.1 (g := mkF m pc Ls (.int v :: st)) rfl (dc K hd) rfl hl) k
theorem i_istoreN (K : Cx p l e R s m meth c Z a0 W own nm bytes ml rt) (X : On p l e R s m args below meth c D Z n0 T A cells slots) {v : Int32} {i : Fin 4} {Ls' : Array Slot} {pc' : Nat} (hd : decode bytes pc = .ok (.istore_n i, 1)) (hp : pc + 1 = pc') (hl : storeLocals Ls i.val (.int v) = some Ls')
    (k : Go p e below (T.setTop (mkF m pc' Ls' (st))) G) : Go p e below (T.setTop (mkF m pc Ls (.int v :: st))) G := by
  subst hp; exact go (fun _ => XS.istoreN X.here K.1 (g := mkF m pc Ls (.int v :: st)) rfl (dc K hd) rfl hl) k
theorem i_lstore (K : Cx p l e R s m meth c Z a0 W own nm bytes ml rt) (X : On p l e R s m args below meth c D Z n0 T A cells slots) {v : Int64} {i : Nat} {Ls' : Array Slot} {pc' : Nat} (hd : decode bytes pc = .ok (.lstore i, 2)) (hp : pc + 2 = pc') (hl : storeLocals Ls i (.long v) = some Ls')
    (k : Go p e below (T.setTop (mkF m pc' Ls' (st))) G) : Go p e below (T.setTop (mkF m pc Ls (.long v :: st))) G := by
  subst hp; exact go (fun _ => XS.lstore X.here K.1 (g := mkF m pc Ls (.long v :: st)) rfl (dc K hd) rfl hl) k
theorem i_lstoreN (K : Cx p l e R s m meth c Z a0 W own nm bytes ml rt) (X : On p l e R s m args below meth c D Z n0 T A cells slots) {v : Int64} {i : Fin 4} {Ls' : Array Slot} {pc' : Nat} (hd : decode bytes pc = .ok (.lstore_n i, 1)) (hp : pc + 1 = pc') (hl : storeLocals Ls i.val (.long v) = some Ls')
    (k : Go p e below (T.setTop (mkF m pc' Ls' (st))) G) : Go p e below (T.setTop (mkF m pc Ls (.long v :: st))) G := by
  subst hp; exact go (fun _ => XS.lstoreN X.here K.1 (g := mkF m pc Ls (.long v :: st)) rfl (dc K hd) rfl hl) k
theorem i_astore (K : Cx p l e R s m meth c Z a0 W own nm bytes ml rt) (X : On p l e R s m args below meth c D Z n0 T A cells slots) {v : Value} {i : Nat} {Ls' : Array Slot} {pc' : Nat} (hd : decode bytes pc = .ok (.astore i, 2)) (hp : pc + 2 = pc') (hl : storeLocals Ls i v = some Ls') (hv : v.isRef = true)
    (k : Go p e below (T.setTop (mkF m pc' Ls' (st))) G) : Go p e below (T.setTop (mkF m pc Ls (v :: st))) G := by
  subst hp; exact go (fun _ => XS.astore X.here K.1 (g := mkF m pc Ls (v :: st)) rfl (dc K hd) rfl hv hl) k
theorem i_astoreN (K : Cx p l e R s m meth c Z a0 W own nm bytes ml rt) (X : On p l e R s m args below meth c D Z n0 T A cells slots) {v : Value} {i : Fin 4} {Ls' : Array Slot} {pc' : Nat} (hd : decode bytes pc = .ok (.astore_n i, 1)) (hp : pc + 1 = pc') (hl : storeLocals Ls i.val v = some Ls') (hv : v.isRef = true)
    (k : Go p e below (T.setTop (mkF m pc' Ls' (st))) G) : Go p e below (T.setTop (mkF m pc Ls (v :: st))) G := by
  subst hp; exact go (fun _ => XS.astoreN X.here K.1 (g := mkF m pc Ls (v :: st)) rfl (dc K hd) rfl hv hl) k
theorem i_iconst (K : Cx p l e R s m meth c Z a0 W own nm bytes ml rt) (X : On p l e R s m args below meth c D Z n0 T A cells slots) {i : Int} {v : Int32} {pc' : Nat} (hd : decode bytes pc = .ok (.iconst i, 1)) (hp : pc + 1 = pc') (hv : Int32.ofInt i = v)
    (k : Go p e below (T.setTop (mkF m pc' Ls (.int v :: st))) G) : Go p e below (T.setTop (mkF m pc Ls st)) G := by
  subst hp hv; exact go (fun _ => XS.iconst X.here K.1 (g := mkF m pc Ls st) rfl (dc K hd)) k
theorem i_bipush (K : Cx p l e R s m meth c Z a0 W own nm bytes ml rt) (X : On p l e R s m args below meth c D Z n0 T A cells slots) {i : Int} {v : Int32} {pc' : Nat} (hd : decode bytes pc = .ok (.bipush i, 2)) (hp : pc + 2 = pc') (hv : (Int8.ofInt i).toInt32 = v)
    (k : Go p e below (T.setTop (mkF m pc' Ls (.int v :: st))) G) : Go p e below (T.setTop (mkF m pc Ls st)) G := by
  subst hp hv; exact go (fun _ => XS.bipush X.here K.1 (g := mkF m pc Ls st) rfl (dc K hd)) k
theorem i_sipush (K : Cx p l e R s m meth c Z a0 W own nm bytes ml rt) (X : On p l e R s m args below meth c D Z n0 T A cells slots) {i : Int} {v : Int32} {pc' : Nat} (hd : decode bytes pc = .ok (.sipush i, 3)) (hp : pc + 3 = pc') (hv : (Int16.ofInt i).toInt32 = v)
    (k : Go p e below (T.setTop (mkF m pc' Ls (.int v :: st))) G) : Go p e below (T.setTop (mkF m pc Ls st)) G := by
  subst hp hv; exact go (fun _ => XS.sipush X.here K.1 (g := mkF m pc Ls st) rfl (dc K hd)) k
theorem i_lconst (K : Cx p l e R s m meth c Z a0 W own nm bytes ml rt) (X : On p l e R s m args below meth c D Z n0 T A cells slots) {i : Fin 2} {v : Int64} {pc' : Nat} (hd : decode bytes pc = .ok (.lconst i, 1)) (hp : pc + 1 = pc') (hv : Int64.ofNat i = v)
    (k : Go p e below (T.setTop (mkF m pc' Ls (.long v :: st))) G) : Go p e below (T.setTop (mkF m pc Ls st)) G := by
  subst hp hv; exact go (fun _ => XS.lconst X.here K.1 (g := mkF m pc Ls st) rfl (dc K hd)) k
theorem i_aconstNull (K : Cx p l e R s m meth c Z a0 W own nm bytes ml rt) (X : On p l e R s m args below meth c D Z n0 T A cells slots)  {pc' : Nat} (hd : decode bytes pc = .ok (.aconst_null, 1)) (hp : pc + 1 = pc')
    (k : Go p e below (T.setTop (mkF m pc' Ls (.null :: st))) G) : Go p e below (T.setTop (mkF m pc Ls (st))) G := by
  subst hp; exact go (fun _ => XS.aconstNull X.here K.1 (g := mkF m pc Ls (st)) rfl (dc K hd)) k
theorem i_iinc (K : Cx p l e R s m meth c Z a0 W own nm bytes ml rt) (X : On p l e R s m args below meth c D Z n0 T A cells slots) {x y : Int32} {i : Nat} {cst : Int} {Ls' : Array Slot} {pc' : Nat} (hd : decode bytes pc = .ok (.iinc i cst, 3)) (hp : pc + 3 = pc') (hl : Ls[i]? = some (.val (.int x))) (hy : Int32.ofInt cst = y) (hl' : storeLocals Ls i (.int (x + y)) = some Ls')
    (k : Go p e below (T.setTop (mkF m pc' Ls' st)) G) : Go p e below (T.setTop (mkF m pc Ls st)) G := by
  subst hp hy; exact go (fun _ => XS.iinc X.here K.1 (g := mkF m pc Ls st) rfl (dc K hd) hl hl') k
theorem i_goto (K : Cx p l e R s m meth c Z a0 W own nm bytes ml rt) (X : On p l e R s m args below meth c D Z n0 T A cells slots)  {o : Int} {pc' : Nat} (hd : decode bytes pc = .ok (.goto o, 3))  (ho : 0 ≤ (pc : Int) + o) (hp : ((pc : Int) + o).toNat = pc')
    (k : Go p e below (T.setTop (mkF m pc' Ls st)) G) : Go p e below (T.setTop (mkF m pc Ls (st))) G := by
  exact go (fun _ => XS.goto X.here K.1 (g := mkF m pc Ls (st)) rfl (pc0 := pc) (pc' := pc') rfl (dc K hd)  ho hp) k
theorem i_ifYes (K : Cx p l e R s m meth c Z a0 W own nm bytes ml rt) (X : On p l e R s m args below meth c D Z n0 T A cells slots) {cd : ClassFile.Cond} {x : Int32} {o : Int} {pc' : Nat} (hd : decode bytes pc = .ok (.ifCond cd o, 3)) (h : if_icmp.holds cd x 0 = true) (ho : 0 ≤ (pc : Int) + o) (hp : ((pc : Int) + o).toNat = pc')
    (k : Go p e below (T.setTop (mkF m pc' Ls st)) G) : Go p e below (T.setTop (mkF m pc Ls (.int x :: st))) G := by
  exact go (fun _ => XS.ifYes X.here K.1 (g := mkF m pc Ls (.int x :: st)) rfl (pc0 := pc) (pc' := pc') rfl (dc K hd) rfl ((if0 _ _).trans h) ho hp) k
theorem i_icmpYes (K : Cx p l e R s m meth c Z a0 W own nm bytes ml rt) (X : On p l e R s m args below meth c D Z n0 T A cells slots) {cd : ClassFile.Cond} {x y : Int32} {o : Int} {pc' : Nat} (hd : decode bytes pc = .ok (.if_icmp cd o, 3)) (h : if_icmp.holds cd x y = true) (ho : 0 ≤ (pc : Int) + o) (hp : ((pc : Int) + o).toNat = pc')
    (k : Go p e below (T.setTop (mkF m pc' Ls st)) G) : Go p e below (T.setTop (mkF m pc Ls (.int y :: .int x :: st))) G := by
  exact go (fun _ => XS.icmpYes X.here K.1 (g := mkF m pc Ls (.int y :: .int x :: st)) rfl (pc0 := pc) (pc' := pc') rfl (dc K hd) rfl h ho hp) k
theorem i_ifNo (K : Cx p l e R s m meth c Z a0 W own nm bytes ml rt) (X : On p l e R s m args below meth c D Z n0 T A cells slots) {cd : ClassFile.Cond} {x : Int32} {o : Int} {pc' : Nat} (hd : decode bytes pc = .ok (.ifCond cd o, 3)) (hp : pc + 3 = pc') (h : if_icmp.holds cd x 0 = false)
    (k : Go p e below (T.setTop (mkF m pc' Ls (st))) G) : Go p e below (T.setTop (mkF m pc Ls (.int x :: st))) G := by
  subst hp; exact go (fun _ => XS.ifNo X.here K.1 (g := mkF m pc Ls (.int x :: st)) rfl (dc K hd) rfl ((if0 _ _).trans h)) k
theorem i_icmpNo (K : Cx p l e R s m meth c Z a0 W own nm bytes ml rt) (X : On p l e R s m args below meth c D Z n0 T A cells slots) {cd : ClassFile.Cond} {x y : Int32} {o : Int} {pc' : Nat} (hd : decode bytes pc = .ok (.if_icmp cd o, 3)) (hp : pc + 3 = pc') (h : if_icmp.holds cd x y = false)
    (k : Go p e below (T.setTop (mkF m pc' Ls (st))) G) : Go p e below (T.setTop (mkF m pc Ls (.int y :: .int x :: st))) G := by
  subst hp; exact go (fun _ => XS.icmpNo X.here K.1 (g := mkF m pc Ls (.int y :: .int x :: st)) rfl (dc K hd) rfl h) k
theorem i_ifnullYes (K : Cx p l e R s m meth c Z a0 W own nm bytes ml rt) (X : On p l e R s m args below meth c D Z n0 T A cells slots)  {o : Int} {pc' : Nat} (hd : decode bytes pc = .ok (.ifnull o, 3))  (ho : 0 ≤ (pc : Int) + o) (hp : ((pc : Int) + o).toNat = pc')
    (k : Go p e below (T.setTop (mkF m pc' Ls st)) G) : Go p e below (T.setTop (mkF m pc Ls (.null :: st))) G := by
  exact go (fun _ => XS.ifnullYes X.here K.1 (g := mkF m pc Ls (.null :: st)) rfl (pc0 := pc) (pc' := pc') rfl (dc K hd) rfl ho hp) k
theorem i_ifnullNo (K : Cx p l e R s m meth c Z a0 W own nm bytes ml rt) (X : On p l e R s m args below meth c D Z n0 T A cells slots) {b : Addr} {o : Int} {pc' : Nat} (hd : decode bytes pc = .ok (.ifnull o, 3)) (hp : pc + 3 = pc')
    (k : Go p e below (T.setTop (mkF m pc' Ls (st))) G) : Go p e below (T.setTop (mkF m pc Ls (.ref b :: st))) G := by
  subst hp; exact go (fun _ => XS.ifnullNo X.here K.1 (g := mkF m pc Ls (.ref b :: st)) rfl (dc K hd) rfl) k
theorem i_ifnonnullYes (K : Cx p l e R s m meth c Z a0 W own nm bytes ml rt) (X : On p l e R s m args below meth c D Z n0 T A cells slots) {b : Addr} {o : Int} {pc' : Nat} (hd : decode bytes pc = .ok (.ifnonnull o, 3))  (ho : 0 ≤ (pc : Int) + o) (hp : ((pc : Int) + o).toNat = pc')
    (k : Go p e below (T.setTop (mkF m pc' Ls st)) G) : Go p e below (T.setTop (mkF m pc Ls (.ref b :: st))) G := by
  exact go (fun _ => XS.ifnonnullYes X.here K.1 (g := mkF m pc Ls (.ref b :: st)) rfl (pc0 := pc) (pc' := pc') rfl (dc K hd) rfl ho hp) k
theorem i_ifnonnullNo (K : Cx p l e R s m meth c Z a0 W own nm bytes ml rt) (X : On p l e R s m args below meth c D Z n0 T A cells slots) {o : Int} {pc' : Nat} (hd : decode bytes pc = .ok (.ifnonnull o, 3)) (hp : pc + 3 = pc')
    (k : Go p e below (T.setTop (mkF m pc' Ls (st))) G) : Go p e below (T.setTop (mkF m pc Ls (.null :: st))) G := by
  subst hp; exact go (fun _ => XS.ifnonnullNo X.here K.1 (g := mkF m pc Ls (.null :: st)) rfl (dc K hd) rfl) k
theorem i_dup2 (K : Cx p l e R s m meth c Z a0 W own nm bytes ml rt) (X : On p l e R s m args below meth c D Z n0 T A cells slots) {x y : Value} {pc' : Nat} (hd : decode bytes pc = .ok (.dup2, 1)) (hp : pc + 1 = pc') (h1 : x.category = 1) (h2 : y.category = 1)
    (k : Go p e below (T.setTop (mkF m pc' Ls (x :: y :: x :: y :: st))) G) : Go p e below (T.setTop (mkF m pc Ls (x :: y :: st))) G := by
  subst hp; exact go (fun _ => Jvm.Free.XT.dup2 X.here K.1 (g := mkF m pc Ls (x :: y :: st)) rfl (dc K hd) rfl h1 h2) k
theorem i_dup2L (K : Cx p l e R s m meth c Z a0 W own nm bytes ml rt) (X : On p l e R s m args below meth c D Z n0 T A cells slots) {x : Int64} {pc' : Nat} (hd : decode bytes pc = .ok (.dup2, 1)) (hp : pc + 1 = pc') 
    (k : Go p e below (T.setTop (mkF m pc' Ls (.long x :: .long x :: st))) G) : Go p e below (T.setTop (mkF m pc Ls (.long x :: st))) G := by
  subst hp; exact go (fun _ => Jvm.Free.XT.dup2L X.here K.1 (g := mkF m pc Ls (.long x :: st)) rfl (dc K hd) rfl) k
theorem i_dupX2 (K : Cx p l e R s m meth c Z a0 W own nm bytes ml rt) (X : On p l e R s m args below meth c D Z n0 T A cells slots) {x : Int32} {y : Int32} {z : Addr} {pc' : Nat} (hd : decode bytes pc = .ok (.dup_x2, 1)) (hp : pc + 1 = pc')
    (k : Go p e below (T.setTop (mkF m pc' Ls (.int x :: .int y :: .ref z :: .int x :: st))) G) : Go p e below (T.setTop (mkF m pc Ls (.int x :: .int y :: .ref z :: st))) G := by
  subst hp
  refine go (fun t hk => ?_) k
  have hdc := dc K hd
  jvm_step X.here [X.here.top, K.1, hdc, Value.category]
  exact hk
theorem i_dup2X1 (K : Cx p l e R s m meth c Z a0 W own nm bytes ml rt) (X : On p l e R s m args below meth c D Z n0 T A cells slots) {x : Int64} {z : Addr} {pc' : Nat} (hd : decode bytes pc = .ok (.dup2_x1, 1)) (hp : pc + 1 = pc')
    (k : Go p e below (T.setTop (mkF m pc' Ls (.long x :: .ref z :: .long x :: st))) G) : Go p e below (T.setTop (mkF m pc Ls (.long x :: .ref z :: st))) G := by
  subst hp
  refine go (fun t hk => ?_) k
  have hdc := dc K hd
  jvm_step X.here [X.here.top, K.1, hdc, Value.category]
  exact hk
theorem i_dup2X2 (K : Cx p l e R s m meth c Z a0 W own nm bytes ml rt) (X : On p l e R s m args below meth c D Z n0 T A cells slots) {x : Int64} {y : Int32} {z : Addr} {pc' : Nat} (hd : decode bytes pc = .ok (.dup2_x2, 1)) (hp : pc + 1 = pc')
    (k : Go p e below (T.setTop (mkF m pc' Ls (.long x :: .int y :: .ref z :: .long x :: st))) G) : Go p e below (T.setTop (mkF m pc Ls (.long x :: .int y :: .ref z :: st))) G := by
  subst hp
  refine go (fun t hk => ?_) k
  have hdc := dc K hd
  jvm_step X.here [X.here.top, K.1, hdc, Value.category]
  exact hk
theorem stOne {Ls Ls' : Array Slot} {i : Nat} {v : Value} {o : Slot} (h : One o) (hold : Ls[i]? = some o) (hv : v.category = 1) (e : Ls.setIfInBounds i (.val v) = Ls') : storeLocals Ls i v = some Ls' := by
  rw [← e]; exact XS.store1 hold h hv
theorem bs {α β : Type} {o : Option α} {f : α → Option β} {b : β} (h : o.bind f = some b) : ∃ a, o = some a ∧ f a = some b := Option.bind_eq_some_iff.mp h
end Instr
end Jvm.OwnKit
namespace Jvm.Pilot.@@N@@
open Jvm Jvm.ClassFile Sem Op Lib Jvm.Free Jvm.Stand Jvm.LawKit Jvm.RoadKit Jvm.OwnKit Bundle Jvm.Pilot.@@N@@.Jvm.D
def own_D : Dic
  | 10 => ("com/example/albatross/albatross/trace/ConstantRate", [("com/example/albatross/albatross/trace/Train", "start", "J"), ("com/example/albatross/albatross/trace/Train", "length", "I"), ("com/example/albatross/albatross/trace/Train", "destination", "I"), ("com/example/albatross/albatross/trace/Train", "dscp", "I"), ("com/example/albatross/albatross/trace/ConstantRate", "rate", "J"), ("com/example/albatross/albatross/trace/ConstantRate", "step", "J"), ("com/example/albatross/albatross/trace/ConstantRate", "stepRemainder", "J"), ("com/example/albatross/albatross/trace/ConstantRate", "time", "J"), ("com/example/albatross/albatross/trace/ConstantRate", "remainder", "J")])
  | _ => ("", [])
theorem own_sep {Z : State} {a0 : Array Value} (hw : ∀ d ∈ tables_1, d.before a0 Z = true) : ∀ t, Sep Z (own_D t).2 := by
  intro t
  unfold own_D
  split
  · refine sep_of (a0 := a0) (C := "com/example/albatross/albatross/trace/ConstantRate") (fun x hx => ?_) (by decide)
    simp only [List.mem_cons, List.not_mem_nil, or_false] at hx
    rcases hx with rfl | rfl | rfl | rfl | rfl | rfl | rfl | rfl | rfl
    · exact ⟨Or.inr (hw _ (List.mem_of_getElem? (i := 18) rfl)), by decide⟩
    · exact ⟨Or.inr (hw _ (List.mem_of_getElem? (i := 20) rfl)), by decide⟩
    · exact ⟨Or.inr (hw _ (List.mem_of_getElem? (i := 22) rfl)), by decide⟩
    · exact ⟨Or.inr (hw _ (List.mem_of_getElem? (i := 24) rfl)), by decide⟩
    · exact ⟨Or.inr (hw _ (List.mem_of_getElem? (i := 27) rfl)), by decide⟩
    · exact ⟨Or.inr (hw _ (List.mem_of_getElem? (i := 29) rfl)), by decide⟩
    · exact ⟨Or.inr (hw _ (List.mem_of_getElem? (i := 31) rfl)), by decide⟩
    · exact ⟨Or.inl (hw _ (List.mem_of_getElem? (i := 33) rfl)), by decide⟩
    · exact ⟨Or.inl (hw _ (List.mem_of_getElem? (i := 41) rfl)), by decide⟩
  · exact Sep.nil
def own_ds10 : List Value := [(.long 0), (.int 0), (.int 0), (.int 0), (.long 0), (.long 0), (.long 0), (.long 0), (.long 0)]
theorem own_dsL10 {p : Program} {l : Launch} {e : Env} {R : Room} {s : State} {m : MethodId} {meth : Method} {c : Code} {Z : State} {a0 : Array Value} {own nm : String} {bytes : ByteArray} {ml n0 : Nat} {rt : Option FieldType} (K : Cx p l e R s m meth c Z a0 tables_1 own nm bytes ml rt) : ∀ (k : Nat) (O f d : String) (v : Value), (own_D 10).2[k]? = some (O, f, d) → own_ds10[k]? = some v → ∃ ty, parseFieldDescriptor d = some ty ∧ Laid Z a0 (own_D 10).1 O f d ∧ lf n0 v = defaultValue ty := by
  intro k O f d v h1 h2
  rcases k with _ | _ | _ | _ | _ | _ | _ | _ | _ |  k
  · simp only [own_D, own_ds10, List.getElem?_cons_zero, List.getElem?_cons_succ, Option.some.injEq, Prod.mk.injEq] at h1 h2
    obtain ⟨rfl, rfl, rfl⟩ := h1; subst h2
    exact ⟨.long, by decide, Or.inr (wd K (i := 18) rfl), rfl⟩
  · simp only [own_D, own_ds10, List.getElem?_cons_zero, List.getElem?_cons_succ, Option.some.injEq, Prod.mk.injEq] at h1 h2
    obtain ⟨rfl, rfl, rfl⟩ := h1; subst h2
    exact ⟨.int, by decide, Or.inr (wd K (i := 20) rfl), rfl⟩
  · simp only [own_D, own_ds10, List.getElem?_cons_zero, List.getElem?_cons_succ, Option.some.injEq, Prod.mk.injEq] at h1 h2
    obtain ⟨rfl, rfl, rfl⟩ := h1; subst h2
    exact ⟨.int, by decide, Or.inr (wd K (i := 22) rfl), rfl⟩
  · simp only [own_D, own_ds10, List.getElem?_cons_zero, List.getElem?_cons_succ, Option.some.injEq, Prod.mk.injEq] at h1 h2
    obtain ⟨rfl, rfl, rfl⟩ := h1; subst h2
    exact ⟨.int, by decide, Or.inr (wd K (i := 24) rfl), rfl⟩
  · simp only [own_D, own_ds10, List.getElem?_cons_zero, List.getElem?_cons_succ, Option.some.injEq, Prod.mk.injEq] at h1 h2
    obtain ⟨rfl, rfl, rfl⟩ := h1; subst h2
    exact ⟨.long, by decide, Or.inr (wd K (i := 27) rfl), rfl⟩
  · simp only [own_D, own_ds10, List.getElem?_cons_zero, List.getElem?_cons_succ, Option.some.injEq, Prod.mk.injEq] at h1 h2
    obtain ⟨rfl, rfl, rfl⟩ := h1; subst h2
    exact ⟨.long, by decide, Or.inr (wd K (i := 29) rfl), rfl⟩
  · simp only [own_D, own_ds10, List.getElem?_cons_zero, List.getElem?_cons_succ, Option.some.injEq, Prod.mk.injEq] at h1 h2
    obtain ⟨rfl, rfl, rfl⟩ := h1; subst h2
    exact ⟨.long, by decide, Or.inr (wd K (i := 31) rfl), rfl⟩
  · simp only [own_D, own_ds10, List.getElem?_cons_zero, List.getElem?_cons_succ, Option.some.injEq, Prod.mk.injEq] at h1 h2
    obtain ⟨rfl, rfl, rfl⟩ := h1; subst h2
    exact ⟨.long, by decide, Or.inl (wd K (i := 33) rfl), rfl⟩
  · simp only [own_D, own_ds10, List.getElem?_cons_zero, List.getElem?_cons_succ, Option.some.injEq, Prod.mk.injEq] at h1 h2
    obtain ⟨rfl, rfl, rfl⟩ := h1; subst h2
    exact ⟨.long, by decide, Or.inl (wd K (i := 41) rfl), rfl⟩
  · simp [own_D] at h1
section OwnWalk
variable {p : Program} {l : Launch} {e : Env} {s : State} {m : MethodId} {args : Array Value} {below : List Frame} {meth : Method} {c : Code} {Z : State} {a0 : Array Value} {n0 : Nat} {T : State} {A : AH} {cells slots : Nat}
/-! body 2: Train.<init>(JIII)V -/
theorem d2_0 : decode prog_59_method_1_code 0 = .ok (.aload_n 0, 1) := by decide +kernel
theorem d2_1 : decode prog_59_method_1_code 1 = .ok (.invokespecial 1, 3) := by decide +kernel
theorem d2_4 : decode prog_59_method_1_code 4 = .ok (.aload_n 0, 1) := by decide +kernel
theorem d2_5 : decode prog_59_method_1_code 5 = .ok (.lload_n 1, 1) := by decide +kernel
theorem d2_6 : decode prog_59_method_1_code 6 = .ok (.putfield 7, 3) := by decide +kernel
theorem d2_9 : decode prog_59_method_1_code 9 = .ok (.aload_n 0, 1) := by decide +kernel
theorem d2_10 : decode prog_59_method_1_code 10 = .ok (.iload_n 3, 1) := by decide +kernel
theorem d2_11 : decode prog_59_method_1_code 11 = .ok (.putfield 13, 3) := by decide +kernel
theorem d2_14 : decode prog_59_method_1_code 14 = .ok (.aload_n 0, 1) := by decide +kernel
theorem d2_15 : decode prog_59_method_1_code 15 = .ok (.iload 4, 2) := by decide +kernel
theorem d2_17 : decode prog_59_method_1_code 17 = .ok (.putfield 17, 3) := by decide +kernel
theorem d2_20 : decode prog_59_method_1_code 20 = .ok (.aload_n 0, 1) := by decide +kernel
theorem d2_21 : decode prog_59_method_1_code 21 = .ok (.iload 5, 2) := by decide +kernel
theorem d2_23 : decode prog_59_method_1_code 23 = .ok (.putfield 20, 3) := by decide +kernel
theorem d2_26 : decode prog_59_method_1_code 26 = .ok (.return_, 1) := by decide +kernel
theorem pd_2 : parseMethodDescriptor "(JIII)V" = some ⟨[.long, .int, .int, .int], none⟩ := by decide +kernel
abbrev own_R2 : Room := { frames := 1, cells := 0, slots := 0, locals := 12 }
def f2_0 (A : AH) (o0 : Nat) (j1 : Int64) (i3 : Int32) (i4 : Int32) (i5 : Int32) : Option (AH) :=
  (h_fset A 10 o0 0 (.long j1)).bind fun A2 =>
  (h_fset A2 10 o0 1 (.int i3)).bind fun A3 =>
  (h_fset A3 10 o0 2 (.int i4)).bind fun A4 =>
  (h_fset A4 10 o0 3 (.int i5)).bind fun A5 =>
  some A5
set_option maxRecDepth 65536 in
set_option maxHeartbeats 4000000 in
theorem w2_0 (K : Cx p l e own_R2 s m meth c Z a0 tables_1 "com/example/albatross/albatross/trace/Train" "<init>" prog_59_method_1_code 6 none) (sep : ∀ t, Sep Z (own_D t).2) (X : On p l e own_R2 s m args below meth c own_D Z n0 T A cells slots) (o0 : Nat) (j1 : Int64) (i3 : Int32) (i4 : Int32) (i5 : Int32) (hc : cells + 0 ≤ 0) (hs : slots + 0 ≤ 0) {q : AH} (hf : f2_0 A o0 j1 i3 i4 i5 = some q) :
    Go p e below (T.setTop (mkF m 0 #[.val (.ref (n0 + o0)), .val (.long j1), .second, .val (.int i3), .val (.int i4), .val (.int i5)] [])) (Fini own_D Z n0 s own_R2 none q) := by
  unfold f2_0 at hf
  refine i_aloadN (pc' := 1) K X d2_0 rfl rfl rfl ?_
  refine obj (pc' := 4) K X (i1 := 14) rfl (i2 := 15) rfl (i3 := 16) rfl d2_1 rfl (by decide) (w := 0) (Nat.le_of_eq rfl) (by decide) rfl (fun T1 X1 => ?_)
  refine i_aloadN (pc' := 5) K X1 d2_4 rfl rfl rfl ?_
  refine i_lloadN (pc' := 6) K X1 d2_5 rfl rfl ?_
  obtain ⟨A2, g2, hf⟩ := bs hf
  refine putf (pc' := 9) K sep X1 (i := 17) rfl d2_6 (t := 10) (f := 0) (by decide) rfl (Or.inr ⟨wd K (i := 18) rfl, rfl, rfl⟩) (i2 := 4) rfl (ty := .long) (by decide) rfl rfl g2 rfl (fun T2 X2 => ?_)
  refine i_aloadN (pc' := 10) K X2 d2_9 rfl rfl rfl ?_
  refine i_iloadN (pc' := 11) K X2 d2_10 rfl rfl ?_
  obtain ⟨A3, g3, hf⟩ := bs hf
  refine putf (pc' := 14) K sep X2 (i := 19) rfl d2_11 (t := 10) (f := 1) (by decide) rfl (Or.inr ⟨wd K (i := 20) rfl, rfl, rfl⟩) (i2 := 4) rfl (ty := .int) (by decide) rfl rfl g3 rfl (fun T3 X3 => ?_)
  refine i_aloadN (pc' := 15) K X3 d2_14 rfl rfl rfl ?_
  refine i_iload (pc' := 17) K X3 d2_15 rfl rfl ?_
  obtain ⟨A4, g4, hf⟩ := bs hf
  refine putf (pc' := 20) K sep X3 (i := 21) rfl d2_17 (t := 10) (f := 2) (by decide) rfl (Or.inr ⟨wd K (i := 22) rfl, rfl, rfl⟩) (i2 := 4) rfl (ty := .int) (by decide) rfl rfl g4 rfl (fun T4 X4 => ?_)
  refine i_aloadN (pc' := 21) K X4 d2_20 rfl rfl rfl ?_
  refine i_iload (pc' := 23) K X4 d2_21 rfl rfl ?_
  obtain ⟨A5, g5, hf⟩ := bs hf
  refine putf (pc' := 26) K sep X4 (i := 23) rfl d2_23 (t := 10) (f := 3) (by decide) rfl (Or.inr ⟨wd K (i := 24) rfl, rfl, rfl⟩) (i2 := 4) rfl (ty := .int) (by decide) rfl rfl g5 rfl (fun T5 X5 => ?_)
  cases hf
  exact retV K X5 (show cells ≤ 0 by omega) (show slots ≤ 0 by omega) d2_26
theorem pn_2 : plainName "com/example/albatross/albatross/trace/Train" = true := by first | (simp [plainName, overriddenIn]; done) | decide +kernel
theorem rm2 {l : Launch} {Z : State} {a0 : Array Value} {n0 : Nat} (hw : ∀ d ∈ tables_1, d.before a0 Z = true) (A : AH) (o0 : Nat) (j1 : Int64) (i3 : Int32) (i4 : Int32) (i5 : Int32) {q : AH} (hf : f2_0 A o0 j1 i3 i4 i5 = some q) :
    Met l own_D Z n0 (⟨"com/example/albatross/albatross/trace/Train", "<init>", "(JIII)V"⟩ : MethodName) prog_59_method_1_code 6 none own_R2 [(.ref (n0 + o0)), (.long j1), (.int i3), (.int i4), (.int i5)] A none q :=
  met (W := tables_1) (a0 := a0) (own := "com/example/albatross/albatross/trace/Train") (nm := "<init>") (L0 := #[.val (.ref (n0 + o0)), .val (.long j1), .second, .val (.int i3), .val (.int i4), .val (.int i5)]) (plainFor_of_name pn_2) hw rfl rfl (fun m => by first | (simp [entryFrame, mkF, argsToLocals, Value.category]; done) | rfl) (fun p e s m below meth c T K X => w2_0 K (own_sep hw) X o0 j1 i3 i4 i5 (show 0 + 0 ≤ 0 by decide) (show 0 + 0 ≤ 0 by decide) hf)
/-! body 1: ConstantRate.<init>(JJIII)V -/
theorem d1_0 : decode prog_47_method_1_code 0 = .ok (.aload_n 0, 1) := by decide +kernel
theorem d1_1 : decode prog_47_method_1_code 1 = .ok (.lload_n 1, 1) := by decide +kernel
theorem d1_2 : decode prog_47_method_1_code 2 = .ok (.iload 5, 2) := by decide +kernel
theorem d1_4 : decode prog_47_method_1_code 4 = .ok (.iload 6, 2) := by decide +kernel
theorem d1_6 : decode prog_47_method_1_code 6 = .ok (.iload 7, 2) := by decide +kernel
theorem d1_8 : decode prog_47_method_1_code 8 = .ok (.invokespecial 1, 3) := by decide +kernel
theorem d1_11 : decode prog_47_method_1_code 11 = .ok (.iload 5, 2) := by decide +kernel
theorem d1_13 : decode prog_47_method_1_code 13 = .ok (.i2l, 1) := by decide +kernel
theorem d1_14 : decode prog_47_method_1_code 14 = .ok (.ldc2_w 7, 3) := by decide +kernel
theorem d1_17 : decode prog_47_method_1_code 17 = .ok (.lmul, 1) := by decide +kernel
theorem d1_18 : decode prog_47_method_1_code 18 = .ok (.lstore 8, 2) := by decide +kernel
theorem d1_20 : decode prog_47_method_1_code 20 = .ok (.aload_n 0, 1) := by decide +kernel
theorem d1_21 : decode prog_47_method_1_code 21 = .ok (.lload_n 3, 1) := by decide +kernel
theorem d1_22 : decode prog_47_method_1_code 22 = .ok (.putfield 9, 3) := by decide +kernel
theorem d1_25 : decode prog_47_method_1_code 25 = .ok (.aload_n 0, 1) := by decide +kernel
theorem d1_26 : decode prog_47_method_1_code 26 = .ok (.lload 8, 2) := by decide +kernel
theorem d1_28 : decode prog_47_method_1_code 28 = .ok (.lload_n 3, 1) := by decide +kernel
theorem d1_29 : decode prog_47_method_1_code 29 = .ok (.ldiv, 1) := by decide +kernel
theorem d1_30 : decode prog_47_method_1_code 30 = .ok (.putfield 15, 3) := by decide +kernel
theorem d1_33 : decode prog_47_method_1_code 33 = .ok (.aload_n 0, 1) := by decide +kernel
theorem d1_34 : decode prog_47_method_1_code 34 = .ok (.lload 8, 2) := by decide +kernel
theorem d1_36 : decode prog_47_method_1_code 36 = .ok (.lload_n 3, 1) := by decide +kernel
theorem d1_37 : decode prog_47_method_1_code 37 = .ok (.lrem, 1) := by decide +kernel
theorem d1_38 : decode prog_47_method_1_code 38 = .ok (.putfield 18, 3) := by decide +kernel
theorem d1_41 : decode prog_47_method_1_code 41 = .ok (.aload_n 0, 1) := by decide +kernel
theorem d1_42 : decode prog_47_method_1_code 42 = .ok (.lload_n 1, 1) := by decide +kernel
theorem d1_43 : decode prog_47_method_1_code 43 = .ok (.putfield 21, 3) := by decide +kernel
theorem d1_46 : decode prog_47_method_1_code 46 = .ok (.return_, 1) := by decide +kernel
theorem pd_1 : parseMethodDescriptor "(JJIII)V" = some ⟨[.long, .long, .int, .int, .int], none⟩ := by decide +kernel
abbrev own_R1 : Room := { frames := 2, cells := 0, slots := 0, locals := 29 }
def f1_28 (A : AH) (o0 : Nat) (j1 : Int64) (j3 : Int64) (j8 : Int64) (u0 : Int64) (r1 : Nat) : Option (AH) :=
  if j3 = (0 : Int64) then none else
  (h_fset A 10 r1 5 (.long (u0 / j3))).bind fun A1 =>
  if j3 = (0 : Int64) then none else
  (h_fset A1 10 o0 6 (.long (j8 - (j8 / j3) * j3))).bind fun A2 =>
  (h_fset A2 10 o0 7 (.long j1)).bind fun A3 =>
  some A3
set_option maxRecDepth 65536 in
set_option maxHeartbeats 4000000 in
theorem w1_28 (K : Cx p l e own_R1 s m meth c Z a0 tables_1 "com/example/albatross/albatross/trace/ConstantRate" "<init>" prog_47_method_1_code 10 none) (sep : ∀ t, Sep Z (own_D t).2) (X : On p l e own_R1 s m args below meth c own_D Z n0 T A cells slots) (o0 : Nat) (j1 : Int64) (j3 : Int64) (i5 : Int32) (i6 : Int32) (i7 : Int32) (j8 : Int64) (u0 : Int64) (r1 : Nat) (hc : cells + 0 ≤ 0) (hs : slots + 0 ≤ 0) {q : AH} (hf : f1_28 A o0 j1 j3 j8 u0 r1 = some q) :
    Go p e below (T.setTop (mkF m 28 #[.val (.ref (n0 + o0)), .val (.long j1), .second, .val (.long j3), .second, .val (.int i5), .val (.int i6), .val (.int i7), .val (.long j8), .second] [(.long u0), (.ref (n0 + r1))])) (Fini own_D Z n0 s own_R1 none q) := by
  unfold f1_28 at hf
  refine i_lloadN (pc' := 29) K X d1_28 rfl rfl ?_
  by_cases hz29 : j3 = (0 : Int64)
  · rw [if_pos hz29] at hf; cases hf
  rw [if_neg hz29] at hf
  refine i_ldiv (pc' := 30) K X d1_29 rfl hz29 ?_
  obtain ⟨A1, g1, hf⟩ := bs hf
  refine putf (pc' := 33) K sep X (i := 28) rfl d1_30 (t := 10) (f := 5) (by decide) rfl (Or.inr ⟨wd K (i := 29) rfl, rfl, rfl⟩) (i2 := 4) rfl (ty := .long) (by decide) rfl rfl g1 rfl (fun T1 X1 => ?_)
  refine i_aloadN (pc' := 34) K X1 d1_33 rfl rfl rfl ?_
  refine i_lload (pc' := 36) K X1 d1_34 rfl rfl ?_
  refine i_lloadN (pc' := 37) K X1 d1_36 rfl rfl ?_
  by_cases hz37 : j3 = (0 : Int64)
  · rw [if_pos hz37] at hf; cases hf
  rw [if_neg hz37] at hf
  refine i_lrem (pc' := 38) K X1 d1_37 rfl hz37 ?_
  obtain ⟨A2, g2, hf⟩ := bs hf
  refine putf (pc' := 41) K sep X1 (i := 30) rfl d1_38 (t := 10) (f := 6) (by decide) rfl (Or.inr ⟨wd K (i := 31) rfl, rfl, rfl⟩) (i2 := 4) rfl (ty := .long) (by decide) rfl rfl g2 rfl (fun T2 X2 => ?_)
  refine i_aloadN (pc' := 42) K X2 d1_41 rfl rfl rfl ?_
  refine i_lloadN (pc' := 43) K X2 d1_42 rfl rfl ?_
  obtain ⟨A3, g3, hf⟩ := bs hf
  refine putf (pc' := 46) K sep X2 (i := 32) rfl d1_43 (t := 10) (f := 7) (by decide) rfl (Or.inl (wd K (i := 33) rfl)) (i2 := 4) rfl (ty := .long) (by decide) rfl rfl g3 rfl (fun T3 X3 => ?_)
  cases hf
  exact retV K X3 (show cells ≤ 0 by omega) (show slots ≤ 0 by omega) d1_46
def f1_0 (A : AH) (o0 : Nat) (j1 : Int64) (j3 : Int64) (i5 : Int32) (i6 : Int32) (i7 : Int32) : Option (AH) :=
  (f2_0 A o0 j1 i5 i6 i7).bind fun A1 =>
  (h_fset A1 10 o0 4 (.long j3)).bind fun A2 =>
  f1_28 A2 o0 j1 j3 (((i5).toInt64) * (8000000000 : Int64)) (((i5).toInt64) * (8000000000 : Int64)) o0
set_option maxRecDepth 65536 in
set_option maxHeartbeats 4000000 in
theorem w1_0 (K : Cx p l e own_R1 s m meth c Z a0 tables_1 "com/example/albatross/albatross/trace/ConstantRate" "<init>" prog_47_method_1_code 10 none) (sep : ∀ t, Sep Z (own_D t).2) (X : On p l e own_R1 s m args below meth c own_D Z n0 T A cells slots) (o0 : Nat) (j1 : Int64) (j3 : Int64) (i5 : Int32) (i6 : Int32) (i7 : Int32) (hc : cells + 0 ≤ 0) (hs : slots + 0 ≤ 0) {q : AH} (hf : f1_0 A o0 j1 j3 i5 i6 i7 = some q) :
    Go p e below (T.setTop (mkF m 0 #[.val (.ref (n0 + o0)), .val (.long j1), .second, .val (.long j3), .second, .val (.int i5), .val (.int i6), .val (.int i7), .unset, .unset] [])) (Fini own_D Z n0 s own_R1 none q) := by
  unfold f1_0 at hf
  refine i_aloadN (pc' := 1) K X d1_0 rfl rfl rfl ?_
  refine i_lloadN (pc' := 2) K X d1_1 rfl rfl ?_
  refine i_iload (pc' := 4) K X d1_2 rfl rfl ?_
  refine i_iload (pc' := 6) K X d1_4 rfl rfl ?_
  refine i_iload (pc' := 8) K X d1_6 rfl rfl ?_
  obtain ⟨A1, g1, hf⟩ := bs hf
  refine calli (pc' := 11) (kc := cells) (ks := slots) (st := []) K X (i1 := 9) rfl (i2 := 10) rfl (i3 := 12) rfl (i4 := 13) rfl rfl (by decide) (rm2 (l := l) (n0 := n0) (K.2.2.2.2.2.2.2.2) A o0 j1 i5 i6 i7 g1) pd_2 rfl d1_8 rfl rfl (by decide) (w := 0) (Nat.le_of_eq rfl) (by decide) (show cells + 0 ≤ 0 by omega) (show slots + 0 ≤ 0 by omega) rfl rfl rfl (fun T1 X1 => ?_)
  refine i_iload (pc' := 13) K X1 d1_11 rfl rfl ?_
  refine i_i2l (pc' := 14) K X1 d1_13 rfl ?_
  refine ldcL (pc' := 17) (v := (8000000000 : Int64)) K X1 (i := 25) rfl d1_14 rfl ?_
  refine i_lmul (pc' := 18) K X1 d1_17 rfl ?_
  refine i_lstore (pc' := 20) (Ls' := #[.val (.ref (n0 + o0)), .val (.long j1), .second, .val (.long j3), .second, .val (.int i5), .val (.int i6), .val (.int i7), .val (.long (((i5).toInt64) * (8000000000 : Int64))), .second]) K X1 d1_18 rfl rfl ?_
  refine i_aloadN (pc' := 21) K X1 d1_20 rfl rfl rfl ?_
  refine i_lloadN (pc' := 22) K X1 d1_21 rfl rfl ?_
  obtain ⟨A2, g2, hf⟩ := bs hf
  refine putf (pc' := 25) K sep X1 (i := 26) rfl d1_22 (t := 10) (f := 4) (by decide) rfl (Or.inr ⟨wd K (i := 27) rfl, rfl, rfl⟩) (i2 := 4) rfl (ty := .long) (by decide) rfl rfl g2 rfl (fun T2 X2 => ?_)
  refine i_aloadN (pc' := 26) K X2 d1_25 rfl rfl rfl ?_
  refine i_lload (pc' := 28) K X2 d1_26 rfl rfl ?_
  exact w1_28 K sep X2 o0 j1 j3 i5 i6 i7 (((i5).toInt64) * (8000000000 : Int64)) (((i5).toInt64) * (8000000000 : Int64)) o0 (show cells + 0 ≤ 0 by omega) (show slots + 0 ≤ 0 by omega) hf
theorem pn_1 : plainName "com/example/albatross/albatross/trace/ConstantRate" = true := by first | (simp [plainName, overriddenIn]; done) | decide +kernel
theorem rm1 {l : Launch} {Z : State} {a0 : Array Value} {n0 : Nat} (hw : ∀ d ∈ tables_1, d.before a0 Z = true) (A : AH) (o0 : Nat) (j1 : Int64) (j3 : Int64) (i5 : Int32) (i6 : Int32) (i7 : Int32) {q : AH} (hf : f1_0 A o0 j1 j3 i5 i6 i7 = some q) :
    Met l own_D Z n0 (⟨"com/example/albatross/albatross/trace/ConstantRate", "<init>", "(JJIII)V"⟩ : MethodName) prog_47_method_1_code 10 none own_R1 [(.ref (n0 + o0)), (.long j1), (.long j3), (.int i5), (.int i6), (.int i7)] A none q :=
  met (W := tables_1) (a0 := a0) (own := "com/example/albatross/albatross/trace/ConstantRate") (nm := "<init>") (L0 := #[.val (.ref (n0 + o0)), .val (.long j1), .second, .val (.long j3), .second, .val (.int i5), .val (.int i6), .val (.int i7), .unset, .unset]) (plainFor_of_name pn_1) hw rfl rfl (fun m => by first | (simp [entryFrame, mkF, argsToLocals, Value.category]; done) | rfl) (fun p e s m below meth c T K X => w1_0 K (own_sep hw) X o0 j1 j3 i5 i6 i7 (show 0 + 0 ≤ 0 by decide) (show 0 + 0 ≤ 0 by decide) hf)
/-! body 3: ConstantRate.nextTime()J -/
theorem d3_0 : decode prog_47_method_2_code 0 = .ok (.aload_n 0, 1) := by decide +kernel
theorem d3_1 : decode prog_47_method_2_code 1 = .ok (.getfield 21, 3) := by decide +kernel
theorem d3_4 : decode prog_47_method_2_code 4 = .ok (.lstore_n 1, 1) := by decide +kernel
theorem d3_5 : decode prog_47_method_2_code 5 = .ok (.aload_n 0, 1) := by decide +kernel
theorem d3_6 : decode prog_47_method_2_code 6 = .ok (.dup, 1) := by decide +kernel
theorem d3_7 : decode prog_47_method_2_code 7 = .ok (.getfield 21, 3) := by decide +kernel
theorem d3_10 : decode prog_47_method_2_code 10 = .ok (.aload_n 0, 1) := by decide +kernel
theorem d3_11 : decode prog_47_method_2_code 11 = .ok (.getfield 15, 3) := by decide +kernel
theorem d3_14 : decode prog_47_method_2_code 14 = .ok (.ladd, 1) := by decide +kernel
theorem d3_15 : decode prog_47_method_2_code 15 = .ok (.putfield 21, 3) := by decide +kernel
theorem d3_18 : decode prog_47_method_2_code 18 = .ok (.aload_n 0, 1) := by decide +kernel
theorem d3_19 : decode prog_47_method_2_code 19 = .ok (.getfield 24, 3) := by decide +kernel
theorem d3_22 : decode prog_47_method_2_code 22 = .ok (.aload_n 0, 1) := by decide +kernel
theorem d3_23 : decode prog_47_method_2_code 23 = .ok (.getfield 9, 3) := by decide +kernel
theorem d3_26 : decode prog_47_method_2_code 26 = .ok (.aload_n 0, 1) := by decide +kernel
theorem d3_27 : decode prog_47_method_2_code 27 = .ok (.getfield 18, 3) := by decide +kernel
theorem d3_30 : decode prog_47_method_2_code 30 = .ok (.lsub, 1) := by decide +kernel
theorem d3_31 : decode prog_47_method_2_code 31 = .ok (.lcmp, 1) := by decide +kernel
theorem d3_32 : decode prog_47_method_2_code 32 = .ok (.ifCond .lt 34, 3) := by decide +kernel
theorem d3_35 : decode prog_47_method_2_code 35 = .ok (.aload_n 0, 1) := by decide +kernel
theorem d3_36 : decode prog_47_method_2_code 36 = .ok (.dup, 1) := by decide +kernel
theorem d3_37 : decode prog_47_method_2_code 37 = .ok (.getfield 21, 3) := by decide +kernel
theorem d3_40 : decode prog_47_method_2_code 40 = .ok (.lconst 1, 1) := by decide +kernel
theorem d3_41 : decode prog_47_method_2_code 41 = .ok (.ladd, 1) := by decide +kernel
theorem d3_42 : decode prog_47_method_2_code 42 = .ok (.putfield 21, 3) := by decide +kernel
theorem d3_45 : decode prog_47_method_2_code 45 = .ok (.aload_n 0, 1) := by decide +kernel
theorem d3_46 : decode prog_47_method_2_code 46 = .ok (.dup, 1) := by decide +kernel
theorem d3_47 : decode prog_47_method_2_code 47 = .ok (.getfield 24, 3) := by decide +kernel
theorem d3_50 : decode prog_47_method_2_code 50 = .ok (.aload_n 0, 1) := by decide +kernel
theorem d3_51 : decode prog_47_method_2_code 51 = .ok (.getfield 9, 3) := by decide +kernel
theorem d3_54 : decode prog_47_method_2_code 54 = .ok (.aload_n 0, 1) := by decide +kernel
theorem d3_55 : decode prog_47_method_2_code 55 = .ok (.getfield 18, 3) := by decide +kernel
theorem d3_58 : decode prog_47_method_2_code 58 = .ok (.lsub, 1) := by decide +kernel
theorem d3_59 : decode prog_47_method_2_code 59 = .ok (.lsub, 1) := by decide +kernel
theorem d3_60 : decode prog_47_method_2_code 60 = .ok (.putfield 24, 3) := by decide +kernel
theorem d3_63 : decode prog_47_method_2_code 63 = .ok (.goto 16, 3) := by decide +kernel
theorem d3_66 : decode prog_47_method_2_code 66 = .ok (.aload_n 0, 1) := by decide +kernel
theorem d3_67 : decode prog_47_method_2_code 67 = .ok (.dup, 1) := by decide +kernel
theorem d3_68 : decode prog_47_method_2_code 68 = .ok (.getfield 24, 3) := by decide +kernel
theorem d3_71 : decode prog_47_method_2_code 71 = .ok (.aload_n 0, 1) := by decide +kernel
theorem d3_72 : decode prog_47_method_2_code 72 = .ok (.getfield 18, 3) := by decide +kernel
theorem d3_75 : decode prog_47_method_2_code 75 = .ok (.ladd, 1) := by decide +kernel
theorem d3_76 : decode prog_47_method_2_code 76 = .ok (.putfield 24, 3) := by decide +kernel
theorem d3_79 : decode prog_47_method_2_code 79 = .ok (.lload_n 1, 1) := by decide +kernel
theorem d3_80 : decode prog_47_method_2_code 80 = .ok (.lreturn, 1) := by decide +kernel
theorem pd_3 : parseMethodDescriptor "()J" = some ⟨[], some .long⟩ := by decide +kernel
abbrev own_R3 : Room := { frames := 0, cells := 0, slots := 0, locals := 0 }
def f3_79 (A : AH) (j1 : Int64) : Option (Int64 × AH) :=
  some (j1, A)
set_option maxRecDepth 65536 in
set_option maxHeartbeats 4000000 in
theorem w3_79 (K : Cx p l e own_R3 s m meth c Z a0 tables_1 "com/example/albatross/albatross/trace/ConstantRate" "nextTime" prog_47_method_2_code 3 (some .long)) (sep : ∀ t, Sep Z (own_D t).2) (X : On p l e own_R3 s m args below meth c own_D Z n0 T A cells slots) (o0 : Nat) (j1 : Int64) (hc : cells + 0 ≤ 0) (hs : slots + 0 ≤ 0) {q : Int64 × AH} (hf : f3_79 A j1 = some q) :
    Go p e below (T.setTop (mkF m 79 #[.val (.ref (n0 + o0)), .val (.long j1), .second] [])) (Fini own_D Z n0 s own_R3 (some (.long q.1)) q.2) := by
  unfold f3_79 at hf
  refine i_lloadN (pc' := 80) K X d3_79 rfl rfl ?_
  cases hf
  exact retJ K X (show cells ≤ 0 by omega) (show slots ≤ 0 by omega) d3_80
def f3_58 (A : AH) (j1 : Int64) (u0 : Int64) (u1 : Int64) (u2 : Int64) (r3 : Nat) : Option (Int64 × AH) :=
  (h_fset A 10 r3 8 (.long (u2 - (u1 - u0)))).bind fun A1 =>
  f3_79 A1 j1
set_option maxRecDepth 65536 in
set_option maxHeartbeats 4000000 in
theorem w3_58 (K : Cx p l e own_R3 s m meth c Z a0 tables_1 "com/example/albatross/albatross/trace/ConstantRate" "nextTime" prog_47_method_2_code 3 (some .long)) (sep : ∀ t, Sep Z (own_D t).2) (X : On p l e own_R3 s m args below meth c own_D Z n0 T A cells slots) (o0 : Nat) (j1 : Int64) (u0 : Int64) (u1 : Int64) (u2 : Int64) (r3 : Nat) (hc : cells + 0 ≤ 0) (hs : slots + 0 ≤ 0) {q : Int64 × AH} (hf : f3_58 A j1 u0 u1 u2 r3 = some q) :
    Go p e below (T.setTop (mkF m 58 #[.val (.ref (n0 + o0)), .val (.long j1), .second] [(.long u0), (.long u1), (.long u2), (.ref (n0 + r3))])) (Fini own_D Z n0 s own_R3 (some (.long q.1)) q.2) := by
  unfold f3_58 at hf
  refine i_lsub (pc' := 59) K X d3_58 rfl ?_
  refine i_lsub (pc' := 60) K X d3_59 rfl ?_
  obtain ⟨A1, g1, hf⟩ := bs hf
  refine putf (pc' := 63) K sep X (i := 40) rfl d3_60 (t := 10) (f := 8) (by decide) rfl (Or.inl (wd K (i := 41) rfl)) (i2 := 4) rfl (ty := .long) (by decide) rfl rfl g1 rfl (fun T1 X1 => ?_)
  refine i_goto (pc' := 79) K X1 d3_63 (by decide) (by decide) ?_
  exact w3_79 K sep X1 o0 j1 (show cells + 0 ≤ 0 by omega) (show slots + 0 ≤ 0 by omega) hf
def f3_30 (A : AH) (o0 : Nat) (j1 : Int64) (u0 : Int64) (u1 : Int64) (u2 : Int64) : Option (Int64 × AH) :=
  if u2 < (u1 - u0) then ((asJ (h_fget A 10 o0 8)).bind fun v1 =>
  (asJ (h_fget A 10 o0 6)).bind fun v2 =>
  (h_fset A 10 o0 8 (.long (v1 + v2))).bind fun A3 =>
  f3_79 A3 j1)
  else ((asJ (h_fget A 10 o0 7)).bind fun v4 =>
  (h_fset A 10 o0 7 (.long (v4 + (1 : Int64)))).bind fun A5 =>
  (asJ (h_fget A5 10 o0 8)).bind fun v6 =>
  (asJ (h_fget A5 10 o0 4)).bind fun v7 =>
  (asJ (h_fget A5 10 o0 6)).bind fun v8 =>
  f3_58 A5 j1 v8 v7 v6 o0)
set_option maxRecDepth 65536 in
set_option maxHeartbeats 4000000 in
theorem w3_30 (K : Cx p l e own_R3 s m meth c Z a0 tables_1 "com/example/albatross/albatross/trace/ConstantRate" "nextTime" prog_47_method_2_code 3 (some .long)) (sep : ∀ t, Sep Z (own_D t).2) (X : On p l e own_R3 s m args below meth c own_D Z n0 T A cells slots) (o0 : Nat) (j1 : Int64) (u0 : Int64) (u1 : Int64) (u2 : Int64) (hc : cells + 0 ≤ 0) (hs : slots + 0 ≤ 0) {q : Int64 × AH} (hf : f3_30 A o0 j1 u0 u1 u2 = some q) :
    Go p e below (T.setTop (mkF m 30 #[.val (.ref (n0 + o0)), .val (.long j1), .second] [(.long u0), (.long u1), (.long u2)])) (Fini own_D Z n0 s own_R3 (some (.long q.1)) q.2) := by
  unfold f3_30 at hf
  refine i_lsub (pc' := 31) K X d3_30 rfl ?_
  refine i_lcmp (pc' := 32) K X d3_31 rfl ?_
  by_cases hc32 : u2 < (u1 - u0)
  · rw [if_pos hc32] at hf
    refine i_ifYes (pc' := 66) K X d3_32 (tlt ((lw_lt _ _).mpr hc32)).1 (by decide) (by decide) ?_
    refine i_aloadN (pc' := 67) K X d3_66 rfl rfl rfl ?_
    refine i_dup (pc' := 68) K X d3_67 rfl rfl ?_
    obtain ⟨v1, g1, hf⟩ := bs hf
    refine getfJ (pc' := 71) K X (i := 40) rfl d3_68 (t := 10) (f := 8) (by decide) rfl g1 rfl (fun T1 X1 => ?_)
    refine i_aloadN (pc' := 72) K X1 d3_71 rfl rfl rfl ?_
    obtain ⟨v2, g2, hf⟩ := bs hf
    refine getfJ (pc' := 75) K X1 (i := 30) rfl d3_72 (t := 10) (f := 6) (by decide) rfl g2 rfl (fun T2 X2 => ?_)
    refine i_ladd (pc' := 76) K X2 d3_75 rfl ?_
    obtain ⟨A3, g3, hf⟩ := bs hf
    refine putf (pc' := 79) K sep X2 (i := 40) rfl d3_76 (t := 10) (f := 8) (by decide) rfl (Or.inl (wd K (i := 41) rfl)) (i2 := 4) rfl (ty := .long) (by decide) rfl rfl g3 rfl (fun T3 X3 => ?_)
    exact w3_79 K sep X3 o0 j1 (show cells + 0 ≤ 0 by omega) (show slots + 0 ≤ 0 by omega) hf
  · rw [if_neg hc32] at hf
    refine i_ifNo (pc' := 35) K X d3_32 rfl (flt (fun z => hc32 ((lw_lt _ _).mp z))).1 ?_
    refine i_aloadN (pc' := 36) K X d3_35 rfl rfl rfl ?_
    refine i_dup (pc' := 37) K X d3_36 rfl rfl ?_
    obtain ⟨v4, g4, hf⟩ := bs hf
    refine getfJ (pc' := 40) K X (i := 32) rfl d3_37 (t := 10) (f := 7) (by decide) rfl g4 rfl (fun T4 X4 => ?_)
    refine i_lconst (pc' := 41) (v := (1 : Int64)) K X4 d3_40 rfl rfl ?_
    refine i_ladd (pc' := 42) K X4 d3_41 rfl ?_
    obtain ⟨A5, g5, hf⟩ := bs hf
    refine putf (pc' := 45) K sep X4 (i := 32) rfl d3_42 (t := 10) (f := 7) (by decide) rfl (Or.inl (wd K (i := 33) rfl)) (i2 := 4) rfl (ty := .long) (by decide) rfl rfl g5 rfl (fun T5 X5 => ?_)
    refine i_aloadN (pc' := 46) K X5 d3_45 rfl rfl rfl ?_
    refine i_dup (pc' := 47) K X5 d3_46 rfl rfl ?_
    obtain ⟨v6, g6, hf⟩ := bs hf
    refine getfJ (pc' := 50) K X5 (i := 40) rfl d3_47 (t := 10) (f := 8) (by decide) rfl g6 rfl (fun T6 X6 => ?_)
    refine i_aloadN (pc' := 51) K X6 d3_50 rfl rfl rfl ?_
    obtain ⟨v7, g7, hf⟩ := bs hf
    refine getfJ (pc' := 54) K X6 (i := 26) rfl d3_51 (t := 10) (f := 4) (by decide) rfl g7 rfl (fun T7 X7 => ?_)
    refine i_aloadN (pc' := 55) K X7 d3_54 rfl rfl rfl ?_
    obtain ⟨v8, g8, hf⟩ := bs hf
    refine getfJ (pc' := 58) K X7 (i := 30) rfl d3_55 (t := 10) (f := 6) (by decide) rfl g8 rfl (fun T8 X8 => ?_)
    exact w3_58 K sep X8 o0 j1 v8 v7 v6 o0 (show cells + 0 ≤ 0 by omega) (show slots + 0 ≤ 0 by omega) hf
def f3_0 (A : AH) (o0 : Nat) : Option (Int64 × AH) :=
  (asJ (h_fget A 10 o0 7)).bind fun v1 =>
  (asJ (h_fget A 10 o0 7)).bind fun v2 =>
  (asJ (h_fget A 10 o0 5)).bind fun v3 =>
  (h_fset A 10 o0 7 (.long (v2 + v3))).bind fun A4 =>
  (asJ (h_fget A4 10 o0 8)).bind fun v5 =>
  (asJ (h_fget A4 10 o0 4)).bind fun v6 =>
  (asJ (h_fget A4 10 o0 6)).bind fun v7 =>
  f3_30 A4 o0 v1 v7 v6 v5
set_option maxRecDepth 65536 in
set_option maxHeartbeats 4000000 in
theorem w3_0 (K : Cx p l e own_R3 s m meth c Z a0 tables_1 "com/example/albatross/albatross/trace/ConstantRate" "nextTime" prog_47_method_2_code 3 (some .long)) (sep : ∀ t, Sep Z (own_D t).2) (X : On p l e own_R3 s m args below meth c own_D Z n0 T A cells slots) (o0 : Nat) (hc : cells + 0 ≤ 0) (hs : slots + 0 ≤ 0) {q : Int64 × AH} (hf : f3_0 A o0 = some q) :
    Go p e below (T.setTop (mkF m 0 #[.val (.ref (n0 + o0)), .unset, .unset] [])) (Fini own_D Z n0 s own_R3 (some (.long q.1)) q.2) := by
  unfold f3_0 at hf
  refine i_aloadN (pc' := 1) K X d3_0 rfl rfl rfl ?_
  obtain ⟨v1, g1, hf⟩ := bs hf
  refine getfJ (pc' := 4) K X (i := 32) rfl d3_1 (t := 10) (f := 7) (by decide) rfl g1 rfl (fun T1 X1 => ?_)
  refine i_lstoreN (pc' := 5) (Ls' := #[.val (.ref (n0 + o0)), .val (.long v1), .second]) K X1 d3_4 rfl rfl ?_
  refine i_aloadN (pc' := 6) K X1 d3_5 rfl rfl rfl ?_
  refine i_dup (pc' := 7) K X1 d3_6 rfl rfl ?_
  obtain ⟨v2, g2, hf⟩ := bs hf
  refine getfJ (pc' := 10) K X1 (i := 32) rfl d3_7 (t := 10) (f := 7) (by decide) rfl g2 rfl (fun T2 X2 => ?_)
  refine i_aloadN (pc' := 11) K X2 d3_10 rfl rfl rfl ?_
  obtain ⟨v3, g3, hf⟩ := bs hf
  refine getfJ (pc' := 14) K X2 (i := 28) rfl d3_11 (t := 10) (f := 5) (by decide) rfl g3 rfl (fun T3 X3 => ?_)
  refine i_ladd (pc' := 15) K X3 d3_14 rfl ?_
  obtain ⟨A4, g4, hf⟩ := bs hf
  refine putf (pc' := 18) K sep X3 (i := 32) rfl d3_15 (t := 10) (f := 7) (by decide) rfl (Or.inl (wd K (i := 33) rfl)) (i2 := 4) rfl (ty := .long) (by decide) rfl rfl g4 rfl (fun T4 X4 => ?_)
  refine i_aloadN (pc' := 19) K X4 d3_18 rfl rfl rfl ?_
  obtain ⟨v5, g5, hf⟩ := bs hf
  refine getfJ (pc' := 22) K X4 (i := 40) rfl d3_19 (t := 10) (f := 8) (by decide) rfl g5 rfl (fun T5 X5 => ?_)
  refine i_aloadN (pc' := 23) K X5 d3_22 rfl rfl rfl ?_
  obtain ⟨v6, g6, hf⟩ := bs hf
  refine getfJ (pc' := 26) K X5 (i := 26) rfl d3_23 (t := 10) (f := 4) (by decide) rfl g6 rfl (fun T6 X6 => ?_)
  refine i_aloadN (pc' := 27) K X6 d3_26 rfl rfl rfl ?_
  obtain ⟨v7, g7, hf⟩ := bs hf
  refine getfJ (pc' := 30) K X6 (i := 30) rfl d3_27 (t := 10) (f := 6) (by decide) rfl g7 rfl (fun T7 X7 => ?_)
  exact w3_30 K sep X7 o0 v1 v7 v6 v5 (show cells + 0 ≤ 0 by omega) (show slots + 0 ≤ 0 by omega) hf
theorem pn_3 : plainName "com/example/albatross/albatross/trace/ConstantRate" = true := by first | (simp [plainName, overriddenIn]; done) | decide +kernel
theorem rm3 {l : Launch} {Z : State} {a0 : Array Value} {n0 : Nat} (hw : ∀ d ∈ tables_1, d.before a0 Z = true) (A : AH) (o0 : Nat) {q : Int64 × AH} (hf : f3_0 A o0 = some q) :
    Met l own_D Z n0 (⟨"com/example/albatross/albatross/trace/ConstantRate", "nextTime", "()J"⟩ : MethodName) prog_47_method_2_code 3 (some .long) own_R3 [(.ref (n0 + o0))] A (some (.long q.1)) q.2 :=
  met (W := tables_1) (a0 := a0) (own := "com/example/albatross/albatross/trace/ConstantRate") (nm := "nextTime") (L0 := #[.val (.ref (n0 + o0)), .unset, .unset]) (plainFor_of_name pn_3) hw rfl rfl (fun m => by first | (simp [entryFrame, mkF, argsToLocals, Value.category]; done) | rfl) (fun p e s m below meth c T K X => w3_0 K (own_sep hw) X o0 (show 0 + 0 ≤ 0 by decide) (show 0 + 0 ≤ 0 by decide) hf)
def f0_268 (A : AH) (s0 : Int32) : Option (Int32 × AH) :=
  some ((nar .boolean s0), A)
set_option maxRecDepth 65536 in
set_option maxHeartbeats 4000000 in
theorem w0_268 (K : Cx p l e room_1 s m meth c Z a0 tables_1 "com/example/albatross/albatross/trace/ConstantRateNextTimePinLaw" "law" code maxLocals ret) (sep : ∀ t, Sep Z (own_D t).2) (X : On p l e room_1 s m args below meth c own_D Z n0 T A cells slots) (j0 : Int64) (j2 : Int64) (i4 : Int32) (i5 : Int32) (i6 : Int32) (j7 : Int64) (j9 : Int64) (i11 : Int32) (o12 : Nat) (j13 : Int64) (j15 : Int64) (j17 : Int64) (j19 : Int64) (j21 : Int64) (j23 : Int64) (j25 : Int64) (i27 : Int32) (s0 : Int32) (hc : cells + 0 ≤ 16) (hs : slots + 0 ≤ 128) {q : Int32 × AH} (hf : f0_268 A s0 = some q) :
    Go p e below (T.setTop (mkF m 268 #[.val (.long j0), .second, .val (.long j2), .second, .val (.int i4), .val (.int i5), .val (.int i6), .val (.long j7), .second, .val (.long j9), .second, .val (.int i11), .val (.ref (n0 + o12)), .val (.long j13), .second, .val (.long j15), .second, .val (.long j17), .second, .val (.long j19), .second, .val (.long j21), .second, .val (.long j23), .second, .val (.long j25), .second, .val (.int i27)] [(.int s0)])) (Fini own_D Z n0 s room_1 (some (.int q.1)) q.2) := by
  unfold f0_268 at hf
  refine i_istore (pc' := 270) (Ls' := #[.val (.long j0), .second, .val (.long j2), .second, .val (.int i4), .val (.int i5), .val (.int i6), .val (.long j7), .second, .val (.long j9), .second, .val (.int i11), .val (.ref (n0 + o12)), .val (.long j13), .second, .val (.long j15), .second, .val (.long j17), .second, .val (.long j19), .second, .val (.long j21), .second, .val (.long j23), .second, .val (.long j25), .second, .val (.int s0)]) K X at_268 rfl rfl ?_
  refine i_iload (pc' := 272) K X at_270 rfl rfl ?_
  cases hf
  exact retB K (by simp) X (show cells ≤ 16 by omega) (show slots ≤ 128 by omega) at_272
def f0_267 (A : AH)  : Option (Int32 × AH) :=
  f0_268 A (0 : Int32)
set_option maxRecDepth 65536 in
set_option maxHeartbeats 4000000 in
theorem w0_267 (K : Cx p l e room_1 s m meth c Z a0 tables_1 "com/example/albatross/albatross/trace/ConstantRateNextTimePinLaw" "law" code maxLocals ret) (sep : ∀ t, Sep Z (own_D t).2) (X : On p l e room_1 s m args below meth c own_D Z n0 T A cells slots) (j0 : Int64) (j2 : Int64) (i4 : Int32) (i5 : Int32) (i6 : Int32) (j7 : Int64) (j9 : Int64) (i11 : Int32) (o12 : Nat) (j13 : Int64) (j15 : Int64) (j17 : Int64) (j19 : Int64) (j21 : Int64) (j23 : Int64) (j25 : Int64) (i27 : Int32) (hc : cells + 0 ≤ 16) (hs : slots + 0 ≤ 128) {q : Int32 × AH} (hf : f0_267 A  = some q) :
    Go p e below (T.setTop (mkF m 267 #[.val (.long j0), .second, .val (.long j2), .second, .val (.int i4), .val (.int i5), .val (.int i6), .val (.long j7), .second, .val (.long j9), .second, .val (.int i11), .val (.ref (n0 + o12)), .val (.long j13), .second, .val (.long j15), .second, .val (.long j17), .second, .val (.long j19), .second, .val (.long j21), .second, .val (.long j23), .second, .val (.long j25), .second, .val (.int i27)] [])) (Fini own_D Z n0 s room_1 (some (.int q.1)) q.2) := by
  unfold f0_267 at hf
  refine i_iconst (pc' := 268) (v := (0 : Int32)) K X at_267 rfl rfl ?_
  exact w0_268 K sep X j0 j2 i4 i5 i6 j7 j9 i11 o12 j13 j15 j17 j19 j21 j23 j25 i27 (0 : Int32) (show cells + 0 ≤ 16 by omega) (show slots + 0 ≤ 128 by omega) hf
def f0_238 (A : AH) (j7 : Int64) (j9 : Int64) (j13 : Int64) (j25 : Int64) (s0 : Int32) : Option (Int32 × AH) :=
  if s0 = (0 : Int32) then (f0_267 A )
  else (if j9 = (0 : Int64) then none else
  if j25 = (j7 + (((5 : Int64) * j13) / j9)) then (f0_268 A (1 : Int32))
  else (f0_267 A ))
set_option maxRecDepth 65536 in
set_option maxHeartbeats 4000000 in
theorem w0_238 (K : Cx p l e room_1 s m meth c Z a0 tables_1 "com/example/albatross/albatross/trace/ConstantRateNextTimePinLaw" "law" code maxLocals ret) (sep : ∀ t, Sep Z (own_D t).2) (X : On p l e room_1 s m args below meth c own_D Z n0 T A cells slots) (j0 : Int64) (j2 : Int64) (i4 : Int32) (i5 : Int32) (i6 : Int32) (j7 : Int64) (j9 : Int64) (i11 : Int32) (o12 : Nat) (j13 : Int64) (j15 : Int64) (j17 : Int64) (j19 : Int64) (j21 : Int64) (j23 : Int64) (j25 : Int64) (i27 : Int32) (s0 : Int32) (hc : cells + 0 ≤ 16) (hs : slots + 0 ≤ 128) {q : Int32 × AH} (hf : f0_238 A j7 j9 j13 j25 s0 = some q) :
    Go p e below (T.setTop (mkF m 238 #[.val (.long j0), .second, .val (.long j2), .second, .val (.int i4), .val (.int i5), .val (.int i6), .val (.long j7), .second, .val (.long j9), .second, .val (.int i11), .val (.ref (n0 + o12)), .val (.long j13), .second, .val (.long j15), .second, .val (.long j17), .second, .val (.long j19), .second, .val (.long j21), .second, .val (.long j23), .second, .val (.long j25), .second, .val (.int i27)] [(.int s0)])) (Fini own_D Z n0 s room_1 (some (.int q.1)) q.2) := by
  unfold f0_238 at hf
  refine i_istore (pc' := 240) (Ls' := #[.val (.long j0), .second, .val (.long j2), .second, .val (.int i4), .val (.int i5), .val (.int i6), .val (.long j7), .second, .val (.long j9), .second, .val (.int i11), .val (.ref (n0 + o12)), .val (.long j13), .second, .val (.long j15), .second, .val (.long j17), .second, .val (.long j19), .second, .val (.long j21), .second, .val (.long j23), .second, .val (.long j25), .second, .val (.int s0)]) K X at_238 rfl rfl ?_
  refine i_iload (pc' := 242) K X at_240 rfl rfl ?_
  by_cases hc242 : s0 = (0 : Int32)
  · rw [if_pos hc242] at hf
    refine i_ifYes (pc' := 267) K X at_242 (teq hc242).1 (by decide) (by decide) ?_
    exact w0_267 K sep X j0 j2 i4 i5 i6 j7 j9 i11 o12 j13 j15 j17 j19 j21 j23 j25 s0 (show cells + 0 ≤ 16 by omega) (show slots + 0 ≤ 128 by omega) hf
  · rw [if_neg hc242] at hf
    refine i_ifNo (pc' := 245) K X at_242 rfl (feq hc242).1 ?_
    refine i_lload (pc' := 247) K X at_245 rfl rfl ?_
    refine i_lload (pc' := 249) K X at_247 rfl rfl ?_
    refine ldcL (pc' := 252) (v := (5 : Int64)) K X (i := 45) rfl at_249 rfl ?_
    refine i_lload (pc' := 254) K X at_252 rfl rfl ?_
    refine i_lmul (pc' := 255) K X at_254 rfl ?_
    refine i_lload (pc' := 257) K X at_255 rfl rfl ?_
    by_cases hz257 : j9 = (0 : Int64)
    · rw [if_pos hz257] at hf; cases hf
    rw [if_neg hz257] at hf
    refine i_ldiv (pc' := 258) K X at_257 rfl hz257 ?_
    refine i_ladd (pc' := 259) K X at_258 rfl ?_
    refine i_lcmp (pc' := 260) K X at_259 rfl ?_
    by_cases hc260 : j25 = (j7 + (((5 : Int64) * j13) / j9))
    · rw [if_pos hc260] at hf
      refine i_ifNo (pc' := 263) K X at_260 rfl (teq ((lw_eq _ _).mpr hc260)).2 ?_
      refine i_iconst (pc' := 264) (v := (1 : Int32)) K X at_263 rfl rfl ?_
      refine i_goto (pc' := 268) K X at_264 (by decide) (by decide) ?_
      exact w0_268 K sep X j0 j2 i4 i5 i6 j7 j9 i11 o12 j13 j15 j17 j19 j21 j23 j25 s0 (1 : Int32) (show cells + 0 ≤ 16 by omega) (show slots + 0 ≤ 128 by omega) hf
    · rw [if_neg hc260] at hf
      refine i_ifYes (pc' := 267) K X at_260 (feq (fun z => hc260 ((lw_eq _ _).mp z))).2 (by decide) (by decide) ?_
      exact w0_267 K sep X j0 j2 i4 i5 i6 j7 j9 i11 o12 j13 j15 j17 j19 j21 j23 j25 s0 (show cells + 0 ≤ 16 by omega) (show slots + 0 ≤ 128 by omega) hf
def f0_237 (A : AH) (j7 : Int64) (j9 : Int64) (j13 : Int64) (j25 : Int64) : Option (Int32 × AH) :=
  f0_238 A j7 j9 j13 j25 (0 : Int32)
set_option maxRecDepth 65536 in
set_option maxHeartbeats 4000000 in
theorem w0_237 (K : Cx p l e room_1 s m meth c Z a0 tables_1 "com/example/albatross/albatross/trace/ConstantRateNextTimePinLaw" "law" code maxLocals ret) (sep : ∀ t, Sep Z (own_D t).2) (X : On p l e room_1 s m args below meth c own_D Z n0 T A cells slots) (j0 : Int64) (j2 : Int64) (i4 : Int32) (i5 : Int32) (i6 : Int32) (j7 : Int64) (j9 : Int64) (i11 : Int32) (o12 : Nat) (j13 : Int64) (j15 : Int64) (j17 : Int64) (j19 : Int64) (j21 : Int64) (j23 : Int64) (j25 : Int64) (i27 : Int32) (hc : cells + 0 ≤ 16) (hs : slots + 0 ≤ 128) {q : Int32 × AH} (hf : f0_237 A j7 j9 j13 j25 = some q) :
    Go p e below (T.setTop (mkF m 237 #[.val (.long j0), .second, .val (.long j2), .second, .val (.int i4), .val (.int i5), .val (.int i6), .val (.long j7), .second, .val (.long j9), .second, .val (.int i11), .val (.ref (n0 + o12)), .val (.long j13), .second, .val (.long j15), .second, .val (.long j17), .second, .val (.long j19), .second, .val (.long j21), .second, .val (.long j23), .second, .val (.long j25), .second, .val (.int i27)] [])) (Fini own_D Z n0 s room_1 (some (.int q.1)) q.2) := by
  unfold f0_237 at hf
  refine i_iconst (pc' := 238) (v := (0 : Int32)) K X at_237 rfl rfl ?_
  exact w0_238 K sep X j0 j2 i4 i5 i6 j7 j9 i11 o12 j13 j15 j17 j19 j21 j23 j25 i27 (0 : Int32) (show cells + 0 ≤ 16 by omega) (show slots + 0 ≤ 128 by omega) hf
def f0_208 (A : AH) (j7 : Int64) (j9 : Int64) (j13 : Int64) (j23 : Int64) (j25 : Int64) (s0 : Int32) : Option (Int32 × AH) :=
  if s0 = (0 : Int32) then (f0_237 A j7 j9 j13 j25)
  else (if j9 = (0 : Int64) then none else
  if j23 = (j7 + (((4 : Int64) * j13) / j9)) then (f0_238 A j7 j9 j13 j25 (1 : Int32))
  else (f0_237 A j7 j9 j13 j25))
set_option maxRecDepth 65536 in
set_option maxHeartbeats 4000000 in
theorem w0_208 (K : Cx p l e room_1 s m meth c Z a0 tables_1 "com/example/albatross/albatross/trace/ConstantRateNextTimePinLaw" "law" code maxLocals ret) (sep : ∀ t, Sep Z (own_D t).2) (X : On p l e room_1 s m args below meth c own_D Z n0 T A cells slots) (j0 : Int64) (j2 : Int64) (i4 : Int32) (i5 : Int32) (i6 : Int32) (j7 : Int64) (j9 : Int64) (i11 : Int32) (o12 : Nat) (j13 : Int64) (j15 : Int64) (j17 : Int64) (j19 : Int64) (j21 : Int64) (j23 : Int64) (j25 : Int64) (i27 : Int32) (s0 : Int32) (hc : cells + 0 ≤ 16) (hs : slots + 0 ≤ 128) {q : Int32 × AH} (hf : f0_208 A j7 j9 j13 j23 j25 s0 = some q) :
    Go p e below (T.setTop (mkF m 208 #[.val (.long j0), .second, .val (.long j2), .second, .val (.int i4), .val (.int i5), .val (.int i6), .val (.long j7), .second, .val (.long j9), .second, .val (.int i11), .val (.ref (n0 + o12)), .val (.long j13), .second, .val (.long j15), .second, .val (.long j17), .second, .val (.long j19), .second, .val (.long j21), .second, .val (.long j23), .second, .val (.long j25), .second, .val (.int i27)] [(.int s0)])) (Fini own_D Z n0 s room_1 (some (.int q.1)) q.2) := by
  unfold f0_208 at hf
  refine i_istore (pc' := 210) (Ls' := #[.val (.long j0), .second, .val (.long j2), .second, .val (.int i4), .val (.int i5), .val (.int i6), .val (.long j7), .second, .val (.long j9), .second, .val (.int i11), .val (.ref (n0 + o12)), .val (.long j13), .second, .val (.long j15), .second, .val (.long j17), .second, .val (.long j19), .second, .val (.long j21), .second, .val (.long j23), .second, .val (.long j25), .second, .val (.int s0)]) K X at_208 rfl rfl ?_
  refine i_iload (pc' := 212) K X at_210 rfl rfl ?_
  by_cases hc212 : s0 = (0 : Int32)
  · rw [if_pos hc212] at hf
    refine i_ifYes (pc' := 237) K X at_212 (teq hc212).1 (by decide) (by decide) ?_
    exact w0_237 K sep X j0 j2 i4 i5 i6 j7 j9 i11 o12 j13 j15 j17 j19 j21 j23 j25 s0 (show cells + 0 ≤ 16 by omega) (show slots + 0 ≤ 128 by omega) hf
  · rw [if_neg hc212] at hf
    refine i_ifNo (pc' := 215) K X at_212 rfl (feq hc212).1 ?_
    refine i_lload (pc' := 217) K X at_215 rfl rfl ?_
    refine i_lload (pc' := 219) K X at_217 rfl rfl ?_
    refine ldcL (pc' := 222) (v := (4 : Int64)) K X (i := 44) rfl at_219 rfl ?_
    refine i_lload (pc' := 224) K X at_222 rfl rfl ?_
    refine i_lmul (pc' := 225) K X at_224 rfl ?_
    refine i_lload (pc' := 227) K X at_225 rfl rfl ?_
    by_cases hz227 : j9 = (0 : Int64)
    · rw [if_pos hz227] at hf; cases hf
    rw [if_neg hz227] at hf
    refine i_ldiv (pc' := 228) K X at_227 rfl hz227 ?_
    refine i_ladd (pc' := 229) K X at_228 rfl ?_
    refine i_lcmp (pc' := 230) K X at_229 rfl ?_
    by_cases hc230 : j23 = (j7 + (((4 : Int64) * j13) / j9))
    · rw [if_pos hc230] at hf
      refine i_ifNo (pc' := 233) K X at_230 rfl (teq ((lw_eq _ _).mpr hc230)).2 ?_
      refine i_iconst (pc' := 234) (v := (1 : Int32)) K X at_233 rfl rfl ?_
      refine i_goto (pc' := 238) K X at_234 (by decide) (by decide) ?_
      exact w0_238 K sep X j0 j2 i4 i5 i6 j7 j9 i11 o12 j13 j15 j17 j19 j21 j23 j25 s0 (1 : Int32) (show cells + 0 ≤ 16 by omega) (show slots + 0 ≤ 128 by omega) hf
    · rw [if_neg hc230] at hf
      refine i_ifYes (pc' := 237) K X at_230 (feq (fun z => hc230 ((lw_eq _ _).mp z))).2 (by decide) (by decide) ?_
      exact w0_237 K sep X j0 j2 i4 i5 i6 j7 j9 i11 o12 j13 j15 j17 j19 j21 j23 j25 s0 (show cells + 0 ≤ 16 by omega) (show slots + 0 ≤ 128 by omega) hf
def f0_207 (A : AH) (j7 : Int64) (j9 : Int64) (j13 : Int64) (j23 : Int64) (j25 : Int64) : Option (Int32 × AH) :=
  f0_208 A j7 j9 j13 j23 j25 (0 : Int32)
set_option maxRecDepth 65536 in
set_option maxHeartbeats 4000000 in
theorem w0_207 (K : Cx p l e room_1 s m meth c Z a0 tables_1 "com/example/albatross/albatross/trace/ConstantRateNextTimePinLaw" "law" code maxLocals ret) (sep : ∀ t, Sep Z (own_D t).2) (X : On p l e room_1 s m args below meth c own_D Z n0 T A cells slots) (j0 : Int64) (j2 : Int64) (i4 : Int32) (i5 : Int32) (i6 : Int32) (j7 : Int64) (j9 : Int64) (i11 : Int32) (o12 : Nat) (j13 : Int64) (j15 : Int64) (j17 : Int64) (j19 : Int64) (j21 : Int64) (j23 : Int64) (j25 : Int64) (i27 : Int32) (hc : cells + 0 ≤ 16) (hs : slots + 0 ≤ 128) {q : Int32 × AH} (hf : f0_207 A j7 j9 j13 j23 j25 = some q) :
    Go p e below (T.setTop (mkF m 207 #[.val (.long j0), .second, .val (.long j2), .second, .val (.int i4), .val (.int i5), .val (.int i6), .val (.long j7), .second, .val (.long j9), .second, .val (.int i11), .val (.ref (n0 + o12)), .val (.long j13), .second, .val (.long j15), .second, .val (.long j17), .second, .val (.long j19), .second, .val (.long j21), .second, .val (.long j23), .second, .val (.long j25), .second, .val (.int i27)] [])) (Fini own_D Z n0 s room_1 (some (.int q.1)) q.2) := by
  unfold f0_207 at hf
  refine i_iconst (pc' := 208) (v := (0 : Int32)) K X at_207 rfl rfl ?_
  exact w0_208 K sep X j0 j2 i4 i5 i6 j7 j9 i11 o12 j13 j15 j17 j19 j21 j23 j25 i27 (0 : Int32) (show cells + 0 ≤ 16 by omega) (show slots + 0 ≤ 128 by omega) hf
def f0_178 (A : AH) (j7 : Int64) (j9 : Int64) (j13 : Int64) (j21 : Int64) (j23 : Int64) (j25 : Int64) (s0 : Int32) : Option (Int32 × AH) :=
  if s0 = (0 : Int32) then (f0_207 A j7 j9 j13 j23 j25)
  else (if j9 = (0 : Int64) then none else
  if j21 = (j7 + (((3 : Int64) * j13) / j9)) then (f0_208 A j7 j9 j13 j23 j25 (1 : Int32))
  else (f0_207 A j7 j9 j13 j23 j25))
set_option maxRecDepth 65536 in
set_option maxHeartbeats 4000000 in
theorem w0_178 (K : Cx p l e room_1 s m meth c Z a0 tables_1 "com/example/albatross/albatross/trace/ConstantRateNextTimePinLaw" "law" code maxLocals ret) (sep : ∀ t, Sep Z (own_D t).2) (X : On p l e room_1 s m args below meth c own_D Z n0 T A cells slots) (j0 : Int64) (j2 : Int64) (i4 : Int32) (i5 : Int32) (i6 : Int32) (j7 : Int64) (j9 : Int64) (i11 : Int32) (o12 : Nat) (j13 : Int64) (j15 : Int64) (j17 : Int64) (j19 : Int64) (j21 : Int64) (j23 : Int64) (j25 : Int64) (i27 : Int32) (s0 : Int32) (hc : cells + 0 ≤ 16) (hs : slots + 0 ≤ 128) {q : Int32 × AH} (hf : f0_178 A j7 j9 j13 j21 j23 j25 s0 = some q) :
    Go p e below (T.setTop (mkF m 178 #[.val (.long j0), .second, .val (.long j2), .second, .val (.int i4), .val (.int i5), .val (.int i6), .val (.long j7), .second, .val (.long j9), .second, .val (.int i11), .val (.ref (n0 + o12)), .val (.long j13), .second, .val (.long j15), .second, .val (.long j17), .second, .val (.long j19), .second, .val (.long j21), .second, .val (.long j23), .second, .val (.long j25), .second, .val (.int i27)] [(.int s0)])) (Fini own_D Z n0 s room_1 (some (.int q.1)) q.2) := by
  unfold f0_178 at hf
  refine i_istore (pc' := 180) (Ls' := #[.val (.long j0), .second, .val (.long j2), .second, .val (.int i4), .val (.int i5), .val (.int i6), .val (.long j7), .second, .val (.long j9), .second, .val (.int i11), .val (.ref (n0 + o12)), .val (.long j13), .second, .val (.long j15), .second, .val (.long j17), .second, .val (.long j19), .second, .val (.long j21), .second, .val (.long j23), .second, .val (.long j25), .second, .val (.int s0)]) K X at_178 rfl rfl ?_
  refine i_iload (pc' := 182) K X at_180 rfl rfl ?_
  by_cases hc182 : s0 = (0 : Int32)
  · rw [if_pos hc182] at hf
    refine i_ifYes (pc' := 207) K X at_182 (teq hc182).1 (by decide) (by decide) ?_
    exact w0_207 K sep X j0 j2 i4 i5 i6 j7 j9 i11 o12 j13 j15 j17 j19 j21 j23 j25 s0 (show cells + 0 ≤ 16 by omega) (show slots + 0 ≤ 128 by omega) hf
  · rw [if_neg hc182] at hf
    refine i_ifNo (pc' := 185) K X at_182 rfl (feq hc182).1 ?_
    refine i_lload (pc' := 187) K X at_185 rfl rfl ?_
    refine i_lload (pc' := 189) K X at_187 rfl rfl ?_
    refine ldcL (pc' := 192) (v := (3 : Int64)) K X (i := 43) rfl at_189 rfl ?_
    refine i_lload (pc' := 194) K X at_192 rfl rfl ?_
    refine i_lmul (pc' := 195) K X at_194 rfl ?_
    refine i_lload (pc' := 197) K X at_195 rfl rfl ?_
    by_cases hz197 : j9 = (0 : Int64)
    · rw [if_pos hz197] at hf; cases hf
    rw [if_neg hz197] at hf
    refine i_ldiv (pc' := 198) K X at_197 rfl hz197 ?_
    refine i_ladd (pc' := 199) K X at_198 rfl ?_
    refine i_lcmp (pc' := 200) K X at_199 rfl ?_
    by_cases hc200 : j21 = (j7 + (((3 : Int64) * j13) / j9))
    · rw [if_pos hc200] at hf
      refine i_ifNo (pc' := 203) K X at_200 rfl (teq ((lw_eq _ _).mpr hc200)).2 ?_
      refine i_iconst (pc' := 204) (v := (1 : Int32)) K X at_203 rfl rfl ?_
      refine i_goto (pc' := 208) K X at_204 (by decide) (by decide) ?_
      exact w0_208 K sep X j0 j2 i4 i5 i6 j7 j9 i11 o12 j13 j15 j17 j19 j21 j23 j25 s0 (1 : Int32) (show cells + 0 ≤ 16 by omega) (show slots + 0 ≤ 128 by omega) hf
    · rw [if_neg hc200] at hf
      refine i_ifYes (pc' := 207) K X at_200 (feq (fun z => hc200 ((lw_eq _ _).mp z))).2 (by decide) (by decide) ?_
      exact w0_207 K sep X j0 j2 i4 i5 i6 j7 j9 i11 o12 j13 j15 j17 j19 j21 j23 j25 s0 (show cells + 0 ≤ 16 by omega) (show slots + 0 ≤ 128 by omega) hf
def f0_177 (A : AH) (j7 : Int64) (j9 : Int64) (j13 : Int64) (j21 : Int64) (j23 : Int64) (j25 : Int64) : Option (Int32 × AH) :=
  f0_178 A j7 j9 j13 j21 j23 j25 (0 : Int32)
set_option maxRecDepth 65536 in
set_option maxHeartbeats 4000000 in
theorem w0_177 (K : Cx p l e room_1 s m meth c Z a0 tables_1 "com/example/albatross/albatross/trace/ConstantRateNextTimePinLaw" "law" code maxLocals ret) (sep : ∀ t, Sep Z (own_D t).2) (X : On p l e room_1 s m args below meth c own_D Z n0 T A cells slots) (j0 : Int64) (j2 : Int64) (i4 : Int32) (i5 : Int32) (i6 : Int32) (j7 : Int64) (j9 : Int64) (i11 : Int32) (o12 : Nat) (j13 : Int64) (j15 : Int64) (j17 : Int64) (j19 : Int64) (j21 : Int64) (j23 : Int64) (j25 : Int64) (i27 : Int32) (hc : cells + 0 ≤ 16) (hs : slots + 0 ≤ 128) {q : Int32 × AH} (hf : f0_177 A j7 j9 j13 j21 j23 j25 = some q) :
    Go p e below (T.setTop (mkF m 177 #[.val (.long j0), .second, .val (.long j2), .second, .val (.int i4), .val (.int i5), .val (.int i6), .val (.long j7), .second, .val (.long j9), .second, .val (.int i11), .val (.ref (n0 + o12)), .val (.long j13), .second, .val (.long j15), .second, .val (.long j17), .second, .val (.long j19), .second, .val (.long j21), .second, .val (.long j23), .second, .val (.long j25), .second, .val (.int i27)] [])) (Fini own_D Z n0 s room_1 (some (.int q.1)) q.2) := by
  unfold f0_177 at hf
  refine i_iconst (pc' := 178) (v := (0 : Int32)) K X at_177 rfl rfl ?_
  exact w0_178 K sep X j0 j2 i4 i5 i6 j7 j9 i11 o12 j13 j15 j17 j19 j21 j23 j25 i27 (0 : Int32) (show cells + 0 ≤ 16 by omega) (show slots + 0 ≤ 128 by omega) hf
def f0_148 (A : AH) (j7 : Int64) (j9 : Int64) (j13 : Int64) (j19 : Int64) (j21 : Int64) (j23 : Int64) (j25 : Int64) (s0 : Int32) : Option (Int32 × AH) :=
  if s0 = (0 : Int32) then (f0_177 A j7 j9 j13 j21 j23 j25)
  else (if j9 = (0 : Int64) then none else
  if j19 = (j7 + (((2 : Int64) * j13) / j9)) then (f0_178 A j7 j9 j13 j21 j23 j25 (1 : Int32))
  else (f0_177 A j7 j9 j13 j21 j23 j25))
set_option maxRecDepth 65536 in
set_option maxHeartbeats 4000000 in
theorem w0_148 (K : Cx p l e room_1 s m meth c Z a0 tables_1 "com/example/albatross/albatross/trace/ConstantRateNextTimePinLaw" "law" code maxLocals ret) (sep : ∀ t, Sep Z (own_D t).2) (X : On p l e room_1 s m args below meth c own_D Z n0 T A cells slots) (j0 : Int64) (j2 : Int64) (i4 : Int32) (i5 : Int32) (i6 : Int32) (j7 : Int64) (j9 : Int64) (i11 : Int32) (o12 : Nat) (j13 : Int64) (j15 : Int64) (j17 : Int64) (j19 : Int64) (j21 : Int64) (j23 : Int64) (j25 : Int64) (i27 : Int32) (s0 : Int32) (hc : cells + 0 ≤ 16) (hs : slots + 0 ≤ 128) {q : Int32 × AH} (hf : f0_148 A j7 j9 j13 j19 j21 j23 j25 s0 = some q) :
    Go p e below (T.setTop (mkF m 148 #[.val (.long j0), .second, .val (.long j2), .second, .val (.int i4), .val (.int i5), .val (.int i6), .val (.long j7), .second, .val (.long j9), .second, .val (.int i11), .val (.ref (n0 + o12)), .val (.long j13), .second, .val (.long j15), .second, .val (.long j17), .second, .val (.long j19), .second, .val (.long j21), .second, .val (.long j23), .second, .val (.long j25), .second, .val (.int i27)] [(.int s0)])) (Fini own_D Z n0 s room_1 (some (.int q.1)) q.2) := by
  unfold f0_148 at hf
  refine i_istore (pc' := 150) (Ls' := #[.val (.long j0), .second, .val (.long j2), .second, .val (.int i4), .val (.int i5), .val (.int i6), .val (.long j7), .second, .val (.long j9), .second, .val (.int i11), .val (.ref (n0 + o12)), .val (.long j13), .second, .val (.long j15), .second, .val (.long j17), .second, .val (.long j19), .second, .val (.long j21), .second, .val (.long j23), .second, .val (.long j25), .second, .val (.int s0)]) K X at_148 rfl rfl ?_
  refine i_iload (pc' := 152) K X at_150 rfl rfl ?_
  by_cases hc152 : s0 = (0 : Int32)
  · rw [if_pos hc152] at hf
    refine i_ifYes (pc' := 177) K X at_152 (teq hc152).1 (by decide) (by decide) ?_
    exact w0_177 K sep X j0 j2 i4 i5 i6 j7 j9 i11 o12 j13 j15 j17 j19 j21 j23 j25 s0 (show cells + 0 ≤ 16 by omega) (show slots + 0 ≤ 128 by omega) hf
  · rw [if_neg hc152] at hf
    refine i_ifNo (pc' := 155) K X at_152 rfl (feq hc152).1 ?_
    refine i_lload (pc' := 157) K X at_155 rfl rfl ?_
    refine i_lload (pc' := 159) K X at_157 rfl rfl ?_
    refine ldcL (pc' := 162) (v := (2 : Int64)) K X (i := 42) rfl at_159 rfl ?_
    refine i_lload (pc' := 164) K X at_162 rfl rfl ?_
    refine i_lmul (pc' := 165) K X at_164 rfl ?_
    refine i_lload (pc' := 167) K X at_165 rfl rfl ?_
    by_cases hz167 : j9 = (0 : Int64)
    · rw [if_pos hz167] at hf; cases hf
    rw [if_neg hz167] at hf
    refine i_ldiv (pc' := 168) K X at_167 rfl hz167 ?_
    refine i_ladd (pc' := 169) K X at_168 rfl ?_
    refine i_lcmp (pc' := 170) K X at_169 rfl ?_
    by_cases hc170 : j19 = (j7 + (((2 : Int64) * j13) / j9))
    · rw [if_pos hc170] at hf
      refine i_ifNo (pc' := 173) K X at_170 rfl (teq ((lw_eq _ _).mpr hc170)).2 ?_
      refine i_iconst (pc' := 174) (v := (1 : Int32)) K X at_173 rfl rfl ?_
      refine i_goto (pc' := 178) K X at_174 (by decide) (by decide) ?_
      exact w0_178 K sep X j0 j2 i4 i5 i6 j7 j9 i11 o12 j13 j15 j17 j19 j21 j23 j25 s0 (1 : Int32) (show cells + 0 ≤ 16 by omega) (show slots + 0 ≤ 128 by omega) hf
    · rw [if_neg hc170] at hf
      refine i_ifYes (pc' := 177) K X at_170 (feq (fun z => hc170 ((lw_eq _ _).mp z))).2 (by decide) (by decide) ?_
      exact w0_177 K sep X j0 j2 i4 i5 i6 j7 j9 i11 o12 j13 j15 j17 j19 j21 j23 j25 s0 (show cells + 0 ≤ 16 by omega) (show slots + 0 ≤ 128 by omega) hf
def f0_147 (A : AH) (j7 : Int64) (j9 : Int64) (j13 : Int64) (j19 : Int64) (j21 : Int64) (j23 : Int64) (j25 : Int64) : Option (Int32 × AH) :=
  f0_148 A j7 j9 j13 j19 j21 j23 j25 (0 : Int32)
set_option maxRecDepth 65536 in
set_option maxHeartbeats 4000000 in
theorem w0_147 (K : Cx p l e room_1 s m meth c Z a0 tables_1 "com/example/albatross/albatross/trace/ConstantRateNextTimePinLaw" "law" code maxLocals ret) (sep : ∀ t, Sep Z (own_D t).2) (X : On p l e room_1 s m args below meth c own_D Z n0 T A cells slots) (j0 : Int64) (j2 : Int64) (i4 : Int32) (i5 : Int32) (i6 : Int32) (j7 : Int64) (j9 : Int64) (i11 : Int32) (o12 : Nat) (j13 : Int64) (j15 : Int64) (j17 : Int64) (j19 : Int64) (j21 : Int64) (j23 : Int64) (j25 : Int64) (i27 : Int32) (hc : cells + 0 ≤ 16) (hs : slots + 0 ≤ 128) {q : Int32 × AH} (hf : f0_147 A j7 j9 j13 j19 j21 j23 j25 = some q) :
    Go p e below (T.setTop (mkF m 147 #[.val (.long j0), .second, .val (.long j2), .second, .val (.int i4), .val (.int i5), .val (.int i6), .val (.long j7), .second, .val (.long j9), .second, .val (.int i11), .val (.ref (n0 + o12)), .val (.long j13), .second, .val (.long j15), .second, .val (.long j17), .second, .val (.long j19), .second, .val (.long j21), .second, .val (.long j23), .second, .val (.long j25), .second, .val (.int i27)] [])) (Fini own_D Z n0 s room_1 (some (.int q.1)) q.2) := by
  unfold f0_147 at hf
  refine i_iconst (pc' := 148) (v := (0 : Int32)) K X at_147 rfl rfl ?_
  exact w0_148 K sep X j0 j2 i4 i5 i6 j7 j9 i11 o12 j13 j15 j17 j19 j21 j23 j25 i27 (0 : Int32) (show cells + 0 ≤ 16 by omega) (show slots + 0 ≤ 128 by omega) hf
def f0_122 (A : AH) (j7 : Int64) (j9 : Int64) (j13 : Int64) (j17 : Int64) (j19 : Int64) (j21 : Int64) (j23 : Int64) (j25 : Int64) (s0 : Int32) : Option (Int32 × AH) :=
  if s0 = (0 : Int32) then (f0_147 A j7 j9 j13 j19 j21 j23 j25)
  else (if j9 = (0 : Int64) then none else
  if j17 = (j7 + (j13 / j9)) then (f0_148 A j7 j9 j13 j19 j21 j23 j25 (1 : Int32))
  else (f0_147 A j7 j9 j13 j19 j21 j23 j25))
set_option maxRecDepth 65536 in
set_option maxHeartbeats 4000000 in
theorem w0_122 (K : Cx p l e room_1 s m meth c Z a0 tables_1 "com/example/albatross/albatross/trace/ConstantRateNextTimePinLaw" "law" code maxLocals ret) (sep : ∀ t, Sep Z (own_D t).2) (X : On p l e room_1 s m args below meth c own_D Z n0 T A cells slots) (j0 : Int64) (j2 : Int64) (i4 : Int32) (i5 : Int32) (i6 : Int32) (j7 : Int64) (j9 : Int64) (i11 : Int32) (o12 : Nat) (j13 : Int64) (j15 : Int64) (j17 : Int64) (j19 : Int64) (j21 : Int64) (j23 : Int64) (j25 : Int64) (s0 : Int32) (hc : cells + 0 ≤ 16) (hs : slots + 0 ≤ 128) {q : Int32 × AH} (hf : f0_122 A j7 j9 j13 j17 j19 j21 j23 j25 s0 = some q) :
    Go p e below (T.setTop (mkF m 122 #[.val (.long j0), .second, .val (.long j2), .second, .val (.int i4), .val (.int i5), .val (.int i6), .val (.long j7), .second, .val (.long j9), .second, .val (.int i11), .val (.ref (n0 + o12)), .val (.long j13), .second, .val (.long j15), .second, .val (.long j17), .second, .val (.long j19), .second, .val (.long j21), .second, .val (.long j23), .second, .val (.long j25), .second, .unset] [(.int s0)])) (Fini own_D Z n0 s room_1 (some (.int q.1)) q.2) := by
  unfold f0_122 at hf
  refine i_istore (pc' := 124) (Ls' := #[.val (.long j0), .second, .val (.long j2), .second, .val (.int i4), .val (.int i5), .val (.int i6), .val (.long j7), .second, .val (.long j9), .second, .val (.int i11), .val (.ref (n0 + o12)), .val (.long j13), .second, .val (.long j15), .second, .val (.long j17), .second, .val (.long j19), .second, .val (.long j21), .second, .val (.long j23), .second, .val (.long j25), .second, .val (.int s0)]) K X at_122 rfl rfl ?_
  refine i_iload (pc' := 126) K X at_124 rfl rfl ?_
  by_cases hc126 : s0 = (0 : Int32)
  · rw [if_pos hc126] at hf
    refine i_ifYes (pc' := 147) K X at_126 (teq hc126).1 (by decide) (by decide) ?_
    exact w0_147 K sep X j0 j2 i4 i5 i6 j7 j9 i11 o12 j13 j15 j17 j19 j21 j23 j25 s0 (show cells + 0 ≤ 16 by omega) (show slots + 0 ≤ 128 by omega) hf
  · rw [if_neg hc126] at hf
    refine i_ifNo (pc' := 129) K X at_126 rfl (feq hc126).1 ?_
    refine i_lload (pc' := 131) K X at_129 rfl rfl ?_
    refine i_lload (pc' := 133) K X at_131 rfl rfl ?_
    refine i_lload (pc' := 135) K X at_133 rfl rfl ?_
    refine i_lload (pc' := 137) K X at_135 rfl rfl ?_
    by_cases hz137 : j9 = (0 : Int64)
    · rw [if_pos hz137] at hf; cases hf
    rw [if_neg hz137] at hf
    refine i_ldiv (pc' := 138) K X at_137 rfl hz137 ?_
    refine i_ladd (pc' := 139) K X at_138 rfl ?_
    refine i_lcmp (pc' := 140) K X at_139 rfl ?_
    by_cases hc140 : j17 = (j7 + (j13 / j9))
    · rw [if_pos hc140] at hf
      refine i_ifNo (pc' := 143) K X at_140 rfl (teq ((lw_eq _ _).mpr hc140)).2 ?_
      refine i_iconst (pc' := 144) (v := (1 : Int32)) K X at_143 rfl rfl ?_
      refine i_goto (pc' := 148) K X at_144 (by decide) (by decide) ?_
      exact w0_148 K sep X j0 j2 i4 i5 i6 j7 j9 i11 o12 j13 j15 j17 j19 j21 j23 j25 s0 (1 : Int32) (show cells + 0 ≤ 16 by omega) (show slots + 0 ≤ 128 by omega) hf
    · rw [if_neg hc140] at hf
      refine i_ifYes (pc' := 147) K X at_140 (feq (fun z => hc140 ((lw_eq _ _).mp z))).2 (by decide) (by decide) ?_
      exact w0_147 K sep X j0 j2 i4 i5 i6 j7 j9 i11 o12 j13 j15 j17 j19 j21 j23 j25 s0 (show cells + 0 ≤ 16 by omega) (show slots + 0 ≤ 128 by omega) hf
def f0_100 (A : AH) (j7 : Int64) (j9 : Int64) (o12 : Nat) (j13 : Int64) (j15 : Int64) (j17 : Int64) (j19 : Int64) (j21 : Int64) (u0 : Int64) : Option (Int32 × AH) :=
  (h_isA A 10 o12).bind fun y2 =>
  (f3_0 A o12).bind fun q1 =>
  if j15 = j7 then (f0_122 q1.2 j7 j9 j13 j17 j19 j21 u0 q1.1 (1 : Int32))
  else (f0_122 q1.2 j7 j9 j13 j17 j19 j21 u0 q1.1 (0 : Int32))
set_option maxRecDepth 65536 in
set_option maxHeartbeats 4000000 in
theorem w0_100 (K : Cx p l e room_1 s m meth c Z a0 tables_1 "com/example/albatross/albatross/trace/ConstantRateNextTimePinLaw" "law" code maxLocals ret) (sep : ∀ t, Sep Z (own_D t).2) (X : On p l e room_1 s m args below meth c own_D Z n0 T A cells slots) (j0 : Int64) (j2 : Int64) (i4 : Int32) (i5 : Int32) (i6 : Int32) (j7 : Int64) (j9 : Int64) (i11 : Int32) (o12 : Nat) (j13 : Int64) (j15 : Int64) (j17 : Int64) (j19 : Int64) (j21 : Int64) (u0 : Int64) (hc : cells + 0 ≤ 16) (hs : slots + 0 ≤ 128) {q : Int32 × AH} (hf : f0_100 A j7 j9 o12 j13 j15 j17 j19 j21 u0 = some q) :
    Go p e below (T.setTop (mkF m 100 #[.val (.long j0), .second, .val (.long j2), .second, .val (.int i4), .val (.int i5), .val (.int i6), .val (.long j7), .second, .val (.long j9), .second, .val (.int i11), .val (.ref (n0 + o12)), .val (.long j13), .second, .val (.long j15), .second, .val (.long j17), .second, .val (.long j19), .second, .val (.long j21), .second, .unset, .unset, .unset, .unset, .unset] [(.long u0)])) (Fini own_D Z n0 s room_1 (some (.int q.1)) q.2) := by
  unfold f0_100 at hf
  refine i_lstore (pc' := 102) (Ls' := #[.val (.long j0), .second, .val (.long j2), .second, .val (.int i4), .val (.int i5), .val (.int i6), .val (.long j7), .second, .val (.long j9), .second, .val (.int i11), .val (.ref (n0 + o12)), .val (.long j13), .second, .val (.long j15), .second, .val (.long j17), .second, .val (.long j19), .second, .val (.long j21), .second, .val (.long u0), .second, .unset, .unset, .unset]) K X at_100 rfl rfl ?_
  refine i_aload (pc' := 104) K X at_102 rfl rfl rfl ?_
  obtain ⟨y2, g2, hf⟩ := bs hf
  obtain ⟨q1, g1, hf⟩ := bs hf
  refine callv (pc' := 107) (kc := cells) (ks := slots) (S' := [(.long q1.1)]) (st := []) K X (i1 := 35) rfl (i2 := 36) rfl (i5 := 38) (t := 10) rfl (i6 := 37) rfl (i3 := 5) rfl (i4 := 39) rfl (by decide) (by decide) g2 (rm3 (l := l) (n0 := n0) (K.2.2.2.2.2.2.2.2) A o12 g1) pd_3 rfl at_104 rfl rfl (by decide) (w := 0) (Nat.le_of_eq rfl) (by decide) (show cells + 0 ≤ 16 by omega) (show slots + 0 ≤ 128 by omega) rfl rfl rfl rfl (fun T1 X1 => ?_)
  refine i_lstore (pc' := 109) (Ls' := #[.val (.long j0), .second, .val (.long j2), .second, .val (.int i4), .val (.int i5), .val (.int i6), .val (.long j7), .second, .val (.long j9), .second, .val (.int i11), .val (.ref (n0 + o12)), .val (.long j13), .second, .val (.long j15), .second, .val (.long j17), .second, .val (.long j19), .second, .val (.long j21), .second, .val (.long u0), .second, .val (.long q1.1), .second, .unset]) K X1 at_107 rfl rfl ?_
  refine i_lload (pc' := 111) K X1 at_109 rfl rfl ?_
  refine i_lload (pc' := 113) K X1 at_111 rfl rfl ?_
  refine i_lcmp (pc' := 114) K X1 at_113 rfl ?_
  by_cases hc114 : j15 = j7
  · rw [if_pos hc114] at hf
    refine i_ifNo (pc' := 117) K X1 at_114 rfl (teq ((lw_eq _ _).mpr hc114)).2 ?_
    refine i_iconst (pc' := 118) (v := (1 : Int32)) K X1 at_117 rfl rfl ?_
    refine i_goto (pc' := 122) K X1 at_118 (by decide) (by decide) ?_
    exact w0_122 K sep X1 j0 j2 i4 i5 i6 j7 j9 i11 o12 j13 j15 j17 j19 j21 u0 q1.1 (1 : Int32) (show cells + 0 ≤ 16 by omega) (show slots + 0 ≤ 128 by omega) hf
  · rw [if_neg hc114] at hf
    refine i_ifYes (pc' := 121) K X1 at_114 (feq (fun z => hc114 ((lw_eq _ _).mp z))).2 (by decide) (by decide) ?_
    refine i_iconst (pc' := 122) (v := (0 : Int32)) K X1 at_121 rfl rfl ?_
    exact w0_122 K sep X1 j0 j2 i4 i5 i6 j7 j9 i11 o12 j13 j15 j17 j19 j21 u0 q1.1 (0 : Int32) (show cells + 0 ≤ 16 by omega) (show slots + 0 ≤ 128 by omega) hf
def f0_64 (A : AH) (j7 : Int64) (j9 : Int64) (o12 : Nat) (u0 : Int64) (u1 : Int64) : Option (Int32 × AH) :=
  (h_isA A 10 o12).bind fun y2 =>
  (f3_0 A o12).bind fun q1 =>
  (h_isA q1.2 10 o12).bind fun y4 =>
  (f3_0 q1.2 o12).bind fun q3 =>
  (h_isA q3.2 10 o12).bind fun y6 =>
  (f3_0 q3.2 o12).bind fun q5 =>
  (h_isA q5.2 10 o12).bind fun y8 =>
  (f3_0 q5.2 o12).bind fun q7 =>
  (h_isA q7.2 10 o12).bind fun y10 =>
  (f3_0 q7.2 o12).bind fun q9 =>
  f0_100 q9.2 j7 j9 o12 (u1 * u0) q1.1 q3.1 q5.1 q7.1 q9.1
set_option maxRecDepth 65536 in
set_option maxHeartbeats 4000000 in
theorem w0_64 (K : Cx p l e room_1 s m meth c Z a0 tables_1 "com/example/albatross/albatross/trace/ConstantRateNextTimePinLaw" "law" code maxLocals ret) (sep : ∀ t, Sep Z (own_D t).2) (X : On p l e room_1 s m args below meth c own_D Z n0 T A cells slots) (j0 : Int64) (j2 : Int64) (i4 : Int32) (i5 : Int32) (i6 : Int32) (j7 : Int64) (j9 : Int64) (i11 : Int32) (o12 : Nat) (u0 : Int64) (u1 : Int64) (hc : cells + 0 ≤ 16) (hs : slots + 0 ≤ 128) {q : Int32 × AH} (hf : f0_64 A j7 j9 o12 u0 u1 = some q) :
    Go p e below (T.setTop (mkF m 64 #[.val (.long j0), .second, .val (.long j2), .second, .val (.int i4), .val (.int i5), .val (.int i6), .val (.long j7), .second, .val (.long j9), .second, .val (.int i11), .val (.ref (n0 + o12)), .unset, .unset, .unset, .unset, .unset, .unset, .unset, .unset, .unset, .unset, .unset, .unset, .unset, .unset, .unset] [(.long u0), (.long u1)])) (Fini own_D Z n0 s room_1 (some (.int q.1)) q.2) := by
  unfold f0_64 at hf
  refine i_lmul (pc' := 65) K X at_64 rfl ?_
  refine i_lstore (pc' := 67) (Ls' := #[.val (.long j0), .second, .val (.long j2), .second, .val (.int i4), .val (.int i5), .val (.int i6), .val (.long j7), .second, .val (.long j9), .second, .val (.int i11), .val (.ref (n0 + o12)), .val (.long (u1 * u0)), .second, .unset, .unset, .unset, .unset, .unset, .unset, .unset, .unset, .unset, .unset, .unset, .unset, .unset]) K X at_65 rfl rfl ?_
  refine i_aload (pc' := 69) K X at_67 rfl rfl rfl ?_
  obtain ⟨y2, g2, hf⟩ := bs hf
  obtain ⟨q1, g1, hf⟩ := bs hf
  refine callv (pc' := 72) (kc := cells) (ks := slots) (S' := [(.long q1.1)]) (st := []) K X (i1 := 35) rfl (i2 := 36) rfl (i5 := 38) (t := 10) rfl (i6 := 37) rfl (i3 := 5) rfl (i4 := 39) rfl (by decide) (by decide) g2 (rm3 (l := l) (n0 := n0) (K.2.2.2.2.2.2.2.2) A o12 g1) pd_3 rfl at_69 rfl rfl (by decide) (w := 0) (Nat.le_of_eq rfl) (by decide) (show cells + 0 ≤ 16 by omega) (show slots + 0 ≤ 128 by omega) rfl rfl rfl rfl (fun T1 X1 => ?_)
  refine i_lstore (pc' := 74) (Ls' := #[.val (.long j0), .second, .val (.long j2), .second, .val (.int i4), .val (.int i5), .val (.int i6), .val (.long j7), .second, .val (.long j9), .second, .val (.int i11), .val (.ref (n0 + o12)), .val (.long (u1 * u0)), .second, .val (.long q1.1), .second, .unset, .unset, .unset, .unset, .unset, .unset, .unset, .unset, .unset, .unset, .unset]) K X1 at_72 rfl rfl ?_
  refine i_aload (pc' := 76) K X1 at_74 rfl rfl rfl ?_
  obtain ⟨y4, g4, hf⟩ := bs hf
  obtain ⟨q3, g3, hf⟩ := bs hf
  refine callv (pc' := 79) (kc := cells) (ks := slots) (S' := [(.long q3.1)]) (st := []) K X1 (i1 := 35) rfl (i2 := 36) rfl (i5 := 38) (t := 10) rfl (i6 := 37) rfl (i3 := 5) rfl (i4 := 39) rfl (by decide) (by decide) g4 (rm3 (l := l) (n0 := n0) (K.2.2.2.2.2.2.2.2) q1.2 o12 g3) pd_3 rfl at_76 rfl rfl (by decide) (w := 0) (Nat.le_of_eq rfl) (by decide) (show cells + 0 ≤ 16 by omega) (show slots + 0 ≤ 128 by omega) rfl rfl rfl rfl (fun T3 X3 => ?_)
  refine i_lstore (pc' := 81) (Ls' := #[.val (.long j0), .second, .val (.long j2), .second, .val (.int i4), .val (.int i5), .val (.int i6), .val (.long j7), .second, .val (.long j9), .second, .val (.int i11), .val (.ref (n0 + o12)), .val (.long (u1 * u0)), .second, .val (.long q1.1), .second, .val (.long q3.1), .second, .unset, .unset, .unset, .unset, .unset, .unset, .unset, .unset, .unset]) K X3 at_79 rfl rfl ?_
  refine i_aload (pc' := 83) K X3 at_81 rfl rfl rfl ?_
  obtain ⟨y6, g6, hf⟩ := bs hf
  obtain ⟨q5, g5, hf⟩ := bs hf
  refine callv (pc' := 86) (kc := cells) (ks := slots) (S' := [(.long q5.1)]) (st := []) K X3 (i1 := 35) rfl (i2 := 36) rfl (i5 := 38) (t := 10) rfl (i6 := 37) rfl (i3 := 5) rfl (i4 := 39) rfl (by decide) (by decide) g6 (rm3 (l := l) (n0 := n0) (K.2.2.2.2.2.2.2.2) q3.2 o12 g5) pd_3 rfl at_83 rfl rfl (by decide) (w := 0) (Nat.le_of_eq rfl) (by decide) (show cells + 0 ≤ 16 by omega) (show slots + 0 ≤ 128 by omega) rfl rfl rfl rfl (fun T5 X5 => ?_)
  refine i_lstore (pc' := 88) (Ls' := #[.val (.long j0), .second, .val (.long j2), .second, .val (.int i4), .val (.int i5), .val (.int i6), .val (.long j7), .second, .val (.long j9), .second, .val (.int i11), .val (.ref (n0 + o12)), .val (.long (u1 * u0)), .second, .val (.long q1.1), .second, .val (.long q3.1), .second, .val (.long q5.1), .second, .unset, .unset, .unset, .unset, .unset, .unset, .unset]) K X5 at_86 rfl rfl ?_
  refine i_aload (pc' := 90) K X5 at_88 rfl rfl rfl ?_
  obtain ⟨y8, g8, hf⟩ := bs hf
  obtain ⟨q7, g7, hf⟩ := bs hf
  refine callv (pc' := 93) (kc := cells) (ks := slots) (S' := [(.long q7.1)]) (st := []) K X5 (i1 := 35) rfl (i2 := 36) rfl (i5 := 38) (t := 10) rfl (i6 := 37) rfl (i3 := 5) rfl (i4 := 39) rfl (by decide) (by decide) g8 (rm3 (l := l) (n0 := n0) (K.2.2.2.2.2.2.2.2) q5.2 o12 g7) pd_3 rfl at_90 rfl rfl (by decide) (w := 0) (Nat.le_of_eq rfl) (by decide) (show cells + 0 ≤ 16 by omega) (show slots + 0 ≤ 128 by omega) rfl rfl rfl rfl (fun T7 X7 => ?_)
  refine i_lstore (pc' := 95) (Ls' := #[.val (.long j0), .second, .val (.long j2), .second, .val (.int i4), .val (.int i5), .val (.int i6), .val (.long j7), .second, .val (.long j9), .second, .val (.int i11), .val (.ref (n0 + o12)), .val (.long (u1 * u0)), .second, .val (.long q1.1), .second, .val (.long q3.1), .second, .val (.long q5.1), .second, .val (.long q7.1), .second, .unset, .unset, .unset, .unset, .unset]) K X7 at_93 rfl rfl ?_
  refine i_aload (pc' := 97) K X7 at_95 rfl rfl rfl ?_
  obtain ⟨y10, g10, hf⟩ := bs hf
  obtain ⟨q9, g9, hf⟩ := bs hf
  refine callv (pc' := 100) (kc := cells) (ks := slots) (S' := [(.long q9.1)]) (st := []) K X7 (i1 := 35) rfl (i2 := 36) rfl (i5 := 38) (t := 10) rfl (i6 := 37) rfl (i3 := 5) rfl (i4 := 39) rfl (by decide) (by decide) g10 (rm3 (l := l) (n0 := n0) (K.2.2.2.2.2.2.2.2) q7.2 o12 g9) pd_3 rfl at_97 rfl rfl (by decide) (w := 0) (Nat.le_of_eq rfl) (by decide) (show cells + 0 ≤ 16 by omega) (show slots + 0 ≤ 128 by omega) rfl rfl rfl rfl (fun T9 X9 => ?_)
  exact w0_100 K sep X9 j0 j2 i4 i5 i6 j7 j9 i11 o12 (u1 * u0) q1.1 q3.1 q5.1 q7.1 q9.1 (show cells + 0 ≤ 16 by omega) (show slots + 0 ≤ 128 by omega) hf
def f0_33 (A : AH) (i5 : Int32) (i6 : Int32) (j7 : Int64) (j9 : Int64) (s0 : Int32) (s1 : Int32) : Option (Int32 × AH) :=
  (h_onew A 10 own_ds10).bind fun q1 =>
  (f1_0 q1.2 q1.1 j7 j9 (s1 + s0) i5 (i6 &&& (63 : Int32))).bind fun A2 =>
  f0_64 A2 j7 j9 q1.1 (8000000000 : Int64) (((s1 + s0)).toInt64)
set_option maxRecDepth 65536 in
set_option maxHeartbeats 4000000 in
theorem w0_33 (K : Cx p l e room_1 s m meth c Z a0 tables_1 "com/example/albatross/albatross/trace/ConstantRateNextTimePinLaw" "law" code maxLocals ret) (sep : ∀ t, Sep Z (own_D t).2) (X : On p l e room_1 s m args below meth c own_D Z n0 T A cells slots) (j0 : Int64) (j2 : Int64) (i4 : Int32) (i5 : Int32) (i6 : Int32) (j7 : Int64) (j9 : Int64) (s0 : Int32) (s1 : Int32) (hc : cells + 1 ≤ 16) (hs : slots + 9 ≤ 128) {q : Int32 × AH} (hf : f0_33 A i5 i6 j7 j9 s0 s1 = some q) :
    Go p e below (T.setTop (mkF m 33 #[.val (.long j0), .second, .val (.long j2), .second, .val (.int i4), .val (.int i5), .val (.int i6), .val (.long j7), .second, .val (.long j9), .second, .unset, .unset, .unset, .unset, .unset, .unset, .unset, .unset, .unset, .unset, .unset, .unset, .unset, .unset, .unset, .unset, .unset] [(.int s0), (.int s1)])) (Fini own_D Z n0 s room_1 (some (.int q.1)) q.2) := by
  unfold f0_33 at hf
  refine i_iadd (pc' := 34) K X at_33 rfl ?_
  refine i_istore (pc' := 36) (Ls' := #[.val (.long j0), .second, .val (.long j2), .second, .val (.int i4), .val (.int i5), .val (.int i6), .val (.long j7), .second, .val (.long j9), .second, .val (.int (s1 + s0)), .unset, .unset, .unset, .unset, .unset, .unset, .unset, .unset, .unset, .unset, .unset, .unset, .unset, .unset, .unset, .unset]) K X at_34 rfl rfl ?_
  obtain ⟨q1, g1, hf⟩ := bs hf
  refine newo (pc' := 39) K X (i1 := 3) rfl (i2 := 4) rfl (i3 := 5) rfl at_36 (show cells + 1 ≤ 16 by omega) (show slots + 9 ≤ 128 by omega) (t := 10) (by decide) (own_dsL10 K) g1 rfl (fun T1 X1 => ?_)
  refine i_dup (pc' := 40) K X1 at_39 rfl rfl ?_
  refine i_lload (pc' := 42) K X1 at_40 rfl rfl ?_
  refine i_lload (pc' := 44) K X1 at_42 rfl rfl ?_
  refine i_iload (pc' := 46) K X1 at_44 rfl rfl ?_
  refine i_iload (pc' := 48) K X1 at_46 rfl rfl ?_
  refine i_iload (pc' := 50) K X1 at_48 rfl rfl ?_
  refine i_bipush (pc' := 52) (v := (63 : Int32)) K X1 at_50 rfl rfl ?_
  refine i_iand (pc' := 53) K X1 at_52 rfl ?_
  obtain ⟨A2, g2, hf⟩ := bs hf
  refine calli (pc' := 56) (kc := cells + 1) (ks := slots + 9) (st := [(.ref (n0 + q1.1))]) K X1 (i1 := 6) rfl (i2 := 7) rfl (i3 := 5) rfl (i4 := 8) rfl rfl (by decide) (rm1 (l := l) (n0 := n0) (K.2.2.2.2.2.2.2.2) q1.2 q1.1 j7 j9 (s1 + s0) i5 (i6 &&& (63 : Int32)) g2) pd_1 rfl at_53 rfl rfl (by decide) (w := 1) (Nat.le_of_eq rfl) (by decide) (show cells + 1 + 0 ≤ 16 by omega) (show slots + 9 + 0 ≤ 128 by omega) rfl rfl rfl (fun T2 X2 => ?_)
  refine i_astore (pc' := 58) (Ls' := #[.val (.long j0), .second, .val (.long j2), .second, .val (.int i4), .val (.int i5), .val (.int i6), .val (.long j7), .second, .val (.long j9), .second, .val (.int (s1 + s0)), .val (.ref (n0 + q1.1)), .unset, .unset, .unset, .unset, .unset, .unset, .unset, .unset, .unset, .unset, .unset, .unset, .unset, .unset, .unset]) K X2 at_56 rfl rfl rfl ?_
  refine i_iload (pc' := 60) K X2 at_58 rfl rfl ?_
  refine i_i2l (pc' := 61) K X2 at_60 rfl ?_
  refine ldcL (pc' := 64) (v := (8000000000 : Int64)) K X2 (i := 34) rfl at_61 rfl ?_
  exact w0_64 K sep X2 j0 j2 i4 i5 i6 j7 j9 (s1 + s0) q1.1 (8000000000 : Int64) (((s1 + s0)).toInt64) (show cells + 1 + 0 ≤ 16 by omega) (show slots + 9 + 0 ≤ 128 by omega) hf
def f0_24 (A : AH) (i4 : Int32) (i5 : Int32) (i6 : Int32) (j7 : Int64) (j9 : Int64) : Option (Int32 × AH) :=
  f0_33 A i5 i6 j7 j9 ((i4 &&& (2147483647 : Int32)) % (65535 : Int32)) (1 : Int32)
set_option maxRecDepth 65536 in
set_option maxHeartbeats 4000000 in
theorem w0_24 (K : Cx p l e room_1 s m meth c Z a0 tables_1 "com/example/albatross/albatross/trace/ConstantRateNextTimePinLaw" "law" code maxLocals ret) (sep : ∀ t, Sep Z (own_D t).2) (X : On p l e room_1 s m args below meth c own_D Z n0 T A cells slots) (j0 : Int64) (j2 : Int64) (i4 : Int32) (i5 : Int32) (i6 : Int32) (j7 : Int64) (j9 : Int64) (hc : cells + 1 ≤ 16) (hs : slots + 9 ≤ 128) {q : Int32 × AH} (hf : f0_24 A i4 i5 i6 j7 j9 = some q) :
    Go p e below (T.setTop (mkF m 24 #[.val (.long j0), .second, .val (.long j2), .second, .val (.int i4), .val (.int i5), .val (.int i6), .val (.long j7), .second, .val (.long j9), .second, .unset, .unset, .unset, .unset, .unset, .unset, .unset, .unset, .unset, .unset, .unset, .unset, .unset, .unset, .unset, .unset, .unset] [])) (Fini own_D Z n0 s room_1 (some (.int q.1)) q.2) := by
  unfold f0_24 at hf
  refine i_iconst (pc' := 25) (v := (1 : Int32)) K X at_24 rfl rfl ?_
  refine i_iload (pc' := 27) K X at_25 rfl rfl ?_
  refine ldcI (pc' := 29) (v := (2147483647 : Int32)) K X (i := 1) rfl at_27 rfl ?_
  refine i_iand (pc' := 30) K X at_29 rfl ?_
  refine ldcI (pc' := 32) (v := (65535 : Int32)) K X (i := 2) rfl at_30 rfl ?_
  refine i_irem (pc' := 33) K X at_32 rfl (by decide) ?_
  exact w0_33 K sep X j0 j2 i4 i5 i6 j7 j9 ((i4 &&& (2147483647 : Int32)) % (65535 : Int32)) (1 : Int32) (show cells + 1 ≤ 16 by omega) (show slots + 9 ≤ 128 by omega) hf
def f0_0 (A : AH) (j0 : Int64) (j2 : Int64) (i4 : Int32) (i5 : Int32) (i6 : Int32) : Option (Int32 × AH) :=
  if (j2 &&& (9223372036854775807 : Int64)) = (0 : Int64) then (f0_24 A i4 i5 i6 (j0 &&& (9223372036854775807 : Int64)) (1 : Int64))
  else (f0_24 A i4 i5 i6 (j0 &&& (9223372036854775807 : Int64)) (j2 &&& (9223372036854775807 : Int64)))
set_option maxRecDepth 65536 in
set_option maxHeartbeats 4000000 in
theorem w0_0 (K : Cx p l e room_1 s m meth c Z a0 tables_1 "com/example/albatross/albatross/trace/ConstantRateNextTimePinLaw" "law" code maxLocals ret) (sep : ∀ t, Sep Z (own_D t).2) (X : On p l e room_1 s m args below meth c own_D Z n0 T A cells slots) (j0 : Int64) (j2 : Int64) (i4 : Int32) (i5 : Int32) (i6 : Int32) (hc : cells + 1 ≤ 16) (hs : slots + 9 ≤ 128) {q : Int32 × AH} (hf : f0_0 A j0 j2 i4 i5 i6 = some q) :
    Go p e below (T.setTop (mkF m 0 #[.val (.long j0), .second, .val (.long j2), .second, .val (.int i4), .val (.int i5), .val (.int i6), .unset, .unset, .unset, .unset, .unset, .unset, .unset, .unset, .unset, .unset, .unset, .unset, .unset, .unset, .unset, .unset, .unset, .unset, .unset, .unset, .unset] [])) (Fini own_D Z n0 s room_1 (some (.int q.1)) q.2) := by
  unfold f0_0 at hf
  refine i_lloadN (pc' := 1) K X at_0 rfl rfl ?_
  refine ldcL (pc' := 4) (v := (9223372036854775807 : Int64)) K X (i := 0) rfl at_1 rfl ?_
  refine i_land (pc' := 5) K X at_4 rfl ?_
  refine i_lstore (pc' := 7) (Ls' := #[.val (.long j0), .second, .val (.long j2), .second, .val (.int i4), .val (.int i5), .val (.int i6), .val (.long (j0 &&& (9223372036854775807 : Int64))), .second, .unset, .unset, .unset, .unset, .unset, .unset, .unset, .unset, .unset, .unset, .unset, .unset, .unset, .unset, .unset, .unset, .unset, .unset, .unset]) K X at_5 rfl rfl ?_
  refine i_lloadN (pc' := 8) K X at_7 rfl rfl ?_
  refine ldcL (pc' := 11) (v := (9223372036854775807 : Int64)) K X (i := 0) rfl at_8 rfl ?_
  refine i_land (pc' := 12) K X at_11 rfl ?_
  refine i_lstore (pc' := 14) (Ls' := #[.val (.long j0), .second, .val (.long j2), .second, .val (.int i4), .val (.int i5), .val (.int i6), .val (.long (j0 &&& (9223372036854775807 : Int64))), .second, .val (.long (j2 &&& (9223372036854775807 : Int64))), .second, .unset, .unset, .unset, .unset, .unset, .unset, .unset, .unset, .unset, .unset, .unset, .unset, .unset, .unset, .unset, .unset, .unset]) K X at_12 rfl rfl ?_
  refine i_lload (pc' := 16) K X at_14 rfl rfl ?_
  refine i_lconst (pc' := 17) (v := (0 : Int64)) K X at_16 rfl rfl ?_
  refine i_lcmp (pc' := 18) K X at_17 rfl ?_
  by_cases hc18 : (j2 &&& (9223372036854775807 : Int64)) = (0 : Int64)
  · rw [if_pos hc18] at hf
    refine i_ifNo (pc' := 21) K X at_18 rfl (teq ((lw_eq _ _).mpr hc18)).2 ?_
    refine i_lconst (pc' := 22) (v := (1 : Int64)) K X at_21 rfl rfl ?_
    refine i_lstore (pc' := 24) (Ls' := #[.val (.long j0), .second, .val (.long j2), .second, .val (.int i4), .val (.int i5), .val (.int i6), .val (.long (j0 &&& (9223372036854775807 : Int64))), .second, .val (.long (1 : Int64)), .second, .unset, .unset, .unset, .unset, .unset, .unset, .unset, .unset, .unset, .unset, .unset, .unset, .unset, .unset, .unset, .unset, .unset]) K X at_22 rfl rfl ?_
    exact w0_24 K sep X j0 j2 i4 i5 i6 (j0 &&& (9223372036854775807 : Int64)) (1 : Int64) (show cells + 1 ≤ 16 by omega) (show slots + 9 ≤ 128 by omega) hf
  · rw [if_neg hc18] at hf
    refine i_ifYes (pc' := 24) K X at_18 (feq (fun z => hc18 ((lw_eq _ _).mp z))).2 (by decide) (by decide) ?_
    exact w0_24 K sep X j0 j2 i4 i5 i6 (j0 &&& (9223372036854775807 : Int64)) (j2 &&& (9223372036854775807 : Int64)) (show cells + 1 ≤ 16 by omega) (show slots + 9 ≤ 128 by omega) hf
theorem pn_0 : plainName "com/example/albatross/albatross/trace/ConstantRateNextTimePinLaw" = true := by first | (simp [plainName, overriddenIn]; done) | decide +kernel
theorem rm0 {l : Launch} {Z : State} {a0 : Array Value} {n0 : Nat} (hw : ∀ d ∈ tables_1, d.before a0 Z = true) (A : AH) (j0 : Int64) (j2 : Int64) (i4 : Int32) (i5 : Int32) (i6 : Int32) {q : Int32 × AH} (hf : f0_0 A j0 j2 i4 i5 i6 = some q) :
    Met l own_D Z n0 x code maxLocals ret room_1 [(.long j0), (.long j2), (.int i4), (.int i5), (.int i6)] A (some (.int q.1)) q.2 :=
  met (W := tables_1) (a0 := a0) (own := "com/example/albatross/albatross/trace/ConstantRateNextTimePinLaw") (nm := "law") (L0 := #[.val (.long j0), .second, .val (.long j2), .second, .val (.int i4), .val (.int i5), .val (.int i6), .unset, .unset, .unset, .unset, .unset, .unset, .unset, .unset, .unset, .unset, .unset, .unset, .unset, .unset, .unset, .unset, .unset, .unset, .unset, .unset, .unset]) (plainFor_of_name pn_0) hw rfl rfl (fun m => by first | (simp [entryFrame, mkF, argsToLocals, Value.category, maxLocals]; done) | rfl) (fun p e s m below meth c T K X => w0_0 K (own_sep hw) X j0 j2 i4 i5 i6 (show 0 + 1 ≤ 16 by decide) (show 0 + 9 ≤ 128 by decide) hf)
end OwnWalk
/-! the plain law -/
def own_C (x0 x1 x2 x3 : Value) (r s d t m : Int64) : AH := [(10, [x0, x1, x2, x3, .long r, .long s, .long d, .long t, .long m])]
theorem own_g4 (x0 x1 x2 x3 : Value) (r s d t m : Int64) : h_fget (own_C x0 x1 x2 x3 r s d t m) 10 0 4 = some (.long r) := rfl
theorem own_g5 (x0 x1 x2 x3 : Value) (r s d t m : Int64) : h_fget (own_C x0 x1 x2 x3 r s d t m) 10 0 5 = some (.long s) := rfl
theorem own_g6 (x0 x1 x2 x3 : Value) (r s d t m : Int64) : h_fget (own_C x0 x1 x2 x3 r s d t m) 10 0 6 = some (.long d) := rfl
theorem own_g7 (x0 x1 x2 x3 : Value) (r s d t m : Int64) : h_fget (own_C x0 x1 x2 x3 r s d t m) 10 0 7 = some (.long t) := rfl
theorem own_g8 (x0 x1 x2 x3 : Value) (r s d t m : Int64) : h_fget (own_C x0 x1 x2 x3 r s d t m) 10 0 8 = some (.long m) := rfl
theorem own_s7 (x0 x1 x2 x3 : Value) (r s d t m t' : Int64) : h_fset (own_C x0 x1 x2 x3 r s d t m) 10 0 7 (.long t') = some (own_C x0 x1 x2 x3 r s d t' m) := rfl
theorem own_s8 (x0 x1 x2 x3 : Value) (r s d t m m' : Int64) : h_fset (own_C x0 x1 x2 x3 r s d t m) 10 0 8 (.long m') = some (own_C x0 x1 x2 x3 r s d t m') := rfl
theorem own_next (x0 x1 x2 x3 : Value) (r s d t m : Int64) : f3_0 (own_C x0 x1 x2 x3 r s d t m) 0 = some (t, own_C x0 x1 x2 x3 r s d (if m < r - d then t + s else t + s + 1) (if m < r - d then m + d else m - (r - d))) := by
  unfold f3_0 f3_30 f3_58 f3_79
  simp only [own_g4, own_g5, own_g6, own_g7, own_g8, own_s7, own_s8, asJ, Option.bind_some]
  by_cases c : m < r - d
  · rw [if_pos c, if_pos c, if_pos c]
  · rw [if_neg c, if_neg c, if_neg c]
theorem own_carry (a b R : Int) (hR : 0 < R) : (a % R + b % R < R → (a + b) / R = a / R + b / R ∧ (a + b) % R = a % R + b % R) ∧ (R ≤ a % R + b % R → (a + b) / R = a / R + b / R + 1 ∧ (a + b) % R = a % R + b % R - R) := by
  have ha := Int.emod_add_mul_ediv a R
  have hb := Int.emod_add_mul_ediv b R
  have a1 := Int.emod_nonneg a (Int.ne_of_gt hR)
  have b1 := Int.emod_nonneg b (Int.ne_of_gt hR)
  have a2 := Int.emod_lt_of_pos a hR
  have b2 := Int.emod_lt_of_pos b hR
  refine ⟨fun h => ?_, fun h => ?_⟩
  · refine (Int.ediv_emod_unique hR).mpr ⟨?_, by omega, h⟩
    rw [Int.mul_add]; omega
  · refine (Int.ediv_emod_unique hR).mpr ⟨?_, by omega, by omega⟩
    rw [Int.mul_add, Int.mul_add, Int.mul_one]; omega
/-- one packet: the time and the remainder go from k to k + 1 intervals -/
theorem own_turn {r s d t m st q q' : Int64} {I k : Int} (hr : 0 < r.toInt) (hs : s.toInt = I / r.toInt) (hd : d.toInt = I % r.toInt) (hm : m.toInt = (k * I) % r.toInt) (ht : t = st + q) (hq : q.toInt = (k * I) / r.toInt) (hq' : q'.toInt = ((k + 1) * I) / r.toInt) :
    (if m < r - d then t + s else t + s + 1) = st + q' ∧ (if m < r - d then m + d else m - (r - d)).toInt = ((k + 1) * I) % r.toInt := by
  have c := own_carry (k * I) I r.toInt hr
  have e : (k + 1) * I = k * I + I := by rw [Int.add_mul, Int.one_mul]
  rw [e] at hq' ⊢
  have d1 := Int.emod_nonneg I (Int.ne_of_gt hr)
  have d2 := Int.emod_lt_of_pos I hr
  have m1 := Int.emod_nonneg (k * I) (Int.ne_of_gt hr)
  have m2 := Int.emod_lt_of_pos (k * I) hr
  have rr := rng64 r
  have h1 := c_lsub r d
  have r1 := rng64 (r - d)
  rw [← hd, ← hm] at c
  rw [← hd] at d1 d2
  rw [← hm] at m1 m2
  subst ht
  have h2 := c_ladd st q
  have h3 := c_ladd (st + q) s
  have h4 := c_ladd (st + q + s) 1
  have h5 := c_ladd st q'
  have h6 := c_ladd m d
  have h7 := c_lsub m (r - d)
  have r2 := rng64 (st + q); have r3 := rng64 (st + q + s); have r4 := rng64 (st + q + s + 1); have r5 := rng64 (st + q'); have r6 := rng64 (m + d); have r7 := rng64 (m - (r - d))
  simp only [show (1 : Int64).toInt = 1 from by decide] at h4
  by_cases q1 : m < r - d
  · rw [if_pos q1, if_pos q1]
    rw [Int64.lt_iff_toInt_lt] at q1
    obtain ⟨c1, c2⟩ := c.1 (by omega)
    refine ⟨Int64.toInt_inj.mp ?_, ?_⟩
    · rw [c1] at hq'; omega
    · rw [c2]; omega
  · rw [if_neg q1, if_neg q1]
    rw [Int64.lt_iff_toInt_lt] at q1
    obtain ⟨c1, c2⟩ := c.2 (by omega)
    refine ⟨Int64.toInt_inj.mp ?_, ?_⟩
    · rw [c1] at hq'; omega
    · rw [c2]; omega
theorem own_nx {x0 x1 x2 x3 : Value} {r s d t m st q q' : Int64} {I k : Int} (hr : 0 < r.toInt) (hs : s.toInt = I / r.toInt) (hd : d.toInt = I % r.toInt) (hm : m.toInt = (k * I) % r.toInt) (ht : t = st + q) (hq : q.toInt = (k * I) / r.toInt) (hq' : q'.toInt = ((k + 1) * I) / r.toInt) :
    ∃ m' : Int64, f3_0 (own_C x0 x1 x2 x3 r s d t m) 0 = some (t, (own_C x0 x1 x2 x3 r s d (st + q') m')) ∧ m'.toInt = ((k + 1) * I) % r.toInt := by
  obtain ⟨e1, e2⟩ := own_turn hr hs hd hm ht hq hq'
  exact ⟨_, by rw [own_next, e1], e2⟩
theorem own_isA (x0 x1 x2 x3 : Value) (r s d t m : Int64) : h_isA (own_C x0 x1 x2 x3 r s d t m) 10 0 = some () := rfl
set_option maxRecDepth 65536 in
theorem own_pl (x0 x1 x2 x3 : Value) (st r : Int64) (L : Int32) (hr : 0 < r.toInt) (hL0 : 1 ≤ L.toInt) (hL1 : L.toInt ≤ 65535) :
    ∃ A, f0_64 (own_C x0 x1 x2 x3 r ((L.toInt64 * 8000000000) / r) ((L.toInt64 * 8000000000) - ((L.toInt64 * 8000000000) / r) * r) st 0) st r 0 8000000000 L.toInt64 = some (1, A) := by
  have h1 := c_lmul L.toInt64 8000000000
  rw [c_i2l] at h1
  simp only [show (8000000000 : Int64).toInt = 8000000000 from by decide] at h1
  have rI := rng64 (L.toInt64 * 8000000000)
  generalize hI : L.toInt64 * 8000000000 = I at *
  have hIe := eq64 h1 rI.1 rI.2 (by omega) (by omega)
  have hI0 : 0 ≤ I.toInt := by omega
  have hI1 : I.toInt ≤ 524280000000000 := by omega
  have rn : r ≠ 0 := fun z => by rw [z] at hr; exact absurd hr (by decide)
  have rm : r ≠ -1 := fun z => by rw [z] at hr; exact absurd hr (by decide)
  have hs := (c_ldiv I r r.toInt rfl rm).1 hI0
  have hd := (c_lrem I r r.toInt rfl).1 hI0
  have mulk : ∀ (K : Int64) (k : Int), K.toInt = k → 0 ≤ k → k ≤ 5 → ((K * I) / r).toInt = (k * I.toInt) / r.toInt := by
    intro K k hK k0 k5
    have e := c_lmul K I
    rw [hK] at e
    have rg := rng64 (K * I)
    have b0 : 0 ≤ k * I.toInt := Int.mul_nonneg k0 hI0
    have b1 : k * I.toInt ≤ 5 * 524280000000000 := Int.mul_le_mul k5 hI1 hI0 (by decide)
    have e2 : (K * I).toInt = k * I.toInt := by generalize k * I.toInt = w at *; omega
    rw [(c_ldiv (K * I) r r.toInt rfl rm).1 (by rw [e2]; exact b0), e2]
  have q2 := mulk 2 2 (by decide) (by decide) (by decide)
  have q3 := mulk 3 3 (by decide) (by decide) (by decide)
  have q4 := mulk 4 4 (by decide) (by decide) (by decide)
  have q5 := mulk 5 5 (by decide) (by decide) (by decide)
  have q6 : ∃ q : Int64, q.toInt = ((5 + 1) * I.toInt) / r.toInt := by
    refine ⟨Int64.ofInt (((5 + 1) * I.toInt) / r.toInt), ?_⟩
    have b0 : 0 ≤ ((5 + 1) * I.toInt) / r.toInt := Int.ediv_nonneg (by omega) (by omega)
    have b1 : ((5 + 1) * I.toInt) / r.toInt ≤ (5 + 1) * I.toInt := Int.ediv_le_self _ (by omega)
    exact Int64.toInt_ofInt_of_le (by omega) (by omega)
  obtain ⟨s6, q6⟩ := q6
  generalize hsv : I / r = s at *
  obtain ⟨m1, n1, e1⟩ := own_nx (x0 := x0) (x1 := x1) (x2 := x2) (x3 := x3) (t := st) (m := 0) (st := st) (q := 0) (q' := s) (k := 0) hr hs hd (by rw [Int.zero_mul, Int.zero_emod]; decide) (by simp) (by rw [Int.zero_mul, Int.zero_ediv]; decide) (by rw [hs]; simp)
  obtain ⟨m2, n2, e2⟩ := own_nx (x0 := x0) (x1 := x1) (x2 := x2) (x3 := x3) (t := st + s) (m := m1) (st := st) (q := s) (q' := 2 * I / r) (k := 0 + 1) hr hs hd e1 rfl (by rw [hs]; simp) q2
  obtain ⟨m3, n3, e3⟩ := own_nx (x0 := x0) (x1 := x1) (x2 := x2) (x3 := x3) (t := st + 2 * I / r) (m := m2) (st := st) (q := 2 * I / r) (q' := 3 * I / r) (k := 0 + 1 + 1) hr hs hd e2 rfl q2 q3
  obtain ⟨m4, n4, e4⟩ := own_nx (x0 := x0) (x1 := x1) (x2 := x2) (x3 := x3) (t := st + 3 * I / r) (m := m3) (st := st) (q := 3 * I / r) (q' := 4 * I / r) (k := 0 + 1 + 1 + 1) hr hs hd e3 rfl q3 q4
  obtain ⟨m5, n5, e5⟩ := own_nx (x0 := x0) (x1 := x1) (x2 := x2) (x3 := x3) (t := st + 4 * I / r) (m := m4) (st := st) (q := 4 * I / r) (q' := 5 * I / r) (k := 0 + 1 + 1 + 1 + 1) hr hs hd e4 rfl q4 q5
  obtain ⟨m6, n6, e6⟩ := own_nx (x0 := x0) (x1 := x1) (x2 := x2) (x3 := x3) (t := st + 5 * I / r) (m := m5) (st := st) (q := 5 * I / r) (q' := s6) (k := 0 + 1 + 1 + 1 + 1 + 1) hr hs hd e5 rfl q5 q6
  unfold f0_64
  rw [own_isA, Option.bind_some, n1, Option.bind_some, own_isA, Option.bind_some, n2, Option.bind_some, own_isA, Option.bind_some, n3, Option.bind_some, own_isA, Option.bind_some, n4, Option.bind_some, own_isA, Option.bind_some, n5, Option.bind_some]
  unfold f0_100
  rw [own_isA, Option.bind_some, n6, Option.bind_some, if_pos rfl, hI]
  unfold f0_122
  rw [if_neg (by decide), if_neg rn, hsv, if_pos rfl]
  unfold f0_148
  rw [if_neg (by decide), if_neg rn, if_pos rfl]
  unfold f0_178
  rw [if_neg (by decide), if_neg rn, if_pos rfl]
  unfold f0_208
  rw [if_neg (by decide), if_neg rn, if_pos rfl]
  unfold f0_238
  rw [if_neg (by decide), if_neg rn, if_pos rfl]
  exact ⟨_, rfl⟩
theorem own_o : h_onew [] 10 own_ds10 = some (0, [(10, [.long 0, .int 0, .int 0, .int 0, .long 0, .long 0, .long 0, .long 0, .long 0])]) := rfl
theorem own_i (st : Int64) (L a b : Int32) : f2_0 [(10, [.long 0, .int 0, .int 0, .int 0, .long 0, .long 0, .long 0, .long 0, .long 0])] 0 st L a b = some (own_C (.long st) (.int L) (.int a) (.int b) 0 0 0 0 0) := rfl
theorem own_s4 (x0 x1 x2 x3 : Value) (r s d t m r' : Int64) : h_fset (own_C x0 x1 x2 x3 r s d t m) 10 0 4 (.long r') = some (own_C x0 x1 x2 x3 r' s d t m) := rfl
theorem own_s5 (x0 x1 x2 x3 : Value) (r s d t m s' : Int64) : h_fset (own_C x0 x1 x2 x3 r s d t m) 10 0 5 (.long s') = some (own_C x0 x1 x2 x3 r s' d t m) := rfl
theorem own_s6 (x0 x1 x2 x3 : Value) (r s d t m d' : Int64) : h_fset (own_C x0 x1 x2 x3 r s d t m) 10 0 6 (.long d') = some (own_C x0 x1 x2 x3 r s d' t m) := rfl
theorem own_mk (st r : Int64) (hr : 0 < r.toInt) (a b s0 s1 : Int32) (hL0 : 1 ≤ (s1 + s0).toInt) (hL1 : (s1 + s0).toInt ≤ 65535) : ∃ A, f0_33 [] a b st r s0 s1 = some (1, A) := by
  have rn : r ≠ 0 := fun z => by rw [z] at hr; exact absurd hr (by decide)
  unfold f0_33
  rw [own_o, Option.bind_some]
  unfold f1_0
  rw [own_i, Option.bind_some, own_s4, Option.bind_some]
  unfold f1_28
  rw [if_neg rn, own_s5, Option.bind_some, if_neg rn, own_s6, Option.bind_some, own_s7, Option.bind_some, Option.bind_some]
  exact own_pl _ _ _ _ st r (s1 + s0) hr hL0 hL1
set_option maxRecDepth 65536 in
theorem own_plain (j0 j1 : Int64) (i2 i3 i4 : Int32) : ∃ A, f0_0 [] j0 j1 i2 i3 i4 = some (1, A) := by
  have m := c_mask i2 2147483647 31 (by decide) (by decide)
  simp only [show ((2 ^ 31 : Nat) : Int) = 2147483648 from rfl] at m
  have e := (c_irem (i2 &&& 2147483647) 65535 65535 (by decide)).1 (by omega)
  have e2 := c_iadd 1 ((i2 &&& 2147483647) % 65535)
  simp only [show (1 : Int32).toInt = 1 from by decide] at e2
  have rg := rng32 (1 + (i2 &&& 2147483647) % 65535)
  unfold f0_0 f0_24
  have pos := (c_andSL j1 9223372036854775807).2.2 (by decide)
  split
  · exact own_mk _ _ (by decide) _ _ _ _ (by omega) (by omega)
  · rename_i h
    refine own_mk _ _ ?_ _ _ _ _ (by omega) (by omega)
    have : (j1 &&& 9223372036854775807).toInt ≠ 0 := fun z => h (Int64.toInt_inj.mp (by rw [z]; decide))
    omega
set_option maxRecDepth 65536 in
set_option maxHeartbeats 4000000 in
theorem comes_1 {Post : Tables → Env → Array Value → State → Outcome → State → Prop} (hpost : ∀ tb e args s v u, (limb_1_1.after args s (.returned v) u = true ∧ limb_1_2.after args s (.returned v) u = true) → FrameEnd s (.returned v) u (Jvm.fieldLocs frame_1_writes args s ++ Jvm.arrayLocs frame_1_arrays args s ++ Jvm.staticLocs frame_1_statics s) 16 128 → Post tb e args s (.returned v) u) :
    ArmFor flags0 classFile x code maxLocals ret World_1 tables_1 room_1 Calls_1 rest_1 Pre_1 Post := by
  intro l hfl _ _ p e ha hc hk s m args below hf hA hF happ hP
  obtain ⟨hcalls, hrest, hpre⟩ := hP
  obtain ⟨-, -, -, hnamed, -, -, -, hat⟩ := (Spec.applies_iff hf).mp happ
  obtain ⟨hg, hn⟩ := and_e (Cond.before_iff.mp (show (Jvm.Cond.and given_1 narrow_1).before args s = true from hpre))
  obtain ⟨b0, hg⟩ := and_e hg
  obtain ⟨b1, hg⟩ := and_e hg
  obtain ⟨b2, hg⟩ := and_e hg
  obtain ⟨b3, hg⟩ := and_e hg
  obtain ⟨b4, hg⟩ := and_e hg
  have b5 := hg
  obtain ⟨w0, w1, w2, w3, w4, rfl⟩ : ∃ w0 w1 w2 w3 w4 : Value, args = #[w0, w1, w2, w3, w4] := by
    have hs : args.size = 5 := by simpa [Cond.value, given_1] using b0
    obtain ⟨L⟩ := args
    match L, hs with
    | [w0, w1, w2, w3, w4], _ => exact ⟨w0, w1, w2, w3, w4, rfl⟩
  have hw := fun d (hd : d ∈ tables_1) => atoms_spec (ws := Jvm.Cond.code x code maxLocals ret :: tables_1) hat d (List.mem_cons_of_mem _ hd)
  obtain ⟨i0, ei0⟩ := isL_v b1
  obtain rfl : w0 = (.long i0) := Option.some.inj ei0
  obtain ⟨i1, ei1⟩ := isL_v b2
  obtain rfl : w1 = (.long i1) := Option.some.inj ei1
  obtain ⟨i2, ei2⟩ := is_v b3
  obtain rfl : w2 = (.int i2) := Option.some.inj ei2
  obtain ⟨i3, ei3⟩ := is_v b4
  obtain rfl : w3 = (.int i3) := Option.some.inj ei3
  obtain ⟨i4, ei4⟩ := is_v b5
  obtain rfl : w4 = (.int i4) := Option.some.inj ei4
  have RA : Rep own_D s s.heap.size s.heap [] := ⟨rfl, fun i t vs e => by simp at e⟩
  obtain ⟨AE, hv⟩ := own_plain i0 i1 i2 i3 i4
  obtain ⟨n, o, h1, h2, h3, v, L, rfl, ⟨rfl, N, -⟩, hq⟩ := rm0 (l := l) (n0 := s.heap.size) hw [] i0 i1 i2 i3 i4 hv tables_1 s.heap RA p e ha hc hk s m _ below hf ((Spec.applies_iff_loose hf).mp happ).1 ⟨rfl, State.Warmed39.refl s, rfl⟩ trivial
  refine ⟨n, _, h1, h2, h3, hpost _ _ _ _ _ _ ⟨Cond.after_iff.mpr rfl, Cond.after_iff.mpr (eq_i res_at (Term.int_eval (1)) rfl)⟩ ⟨hq.1, hq.2.1, (hq.2.2.sift fun y hy => Or.inr (N y hy)).mono (by decide) (by decide)⟩⟩
theorem main_1_1 : Claimed_1_1 := comes_1 fun _ _ _ _ _ _ h hF => ⟨h.1, hF⟩
theorem main_1_2 : Claimed_1_2 := comes_1 fun _ _ _ _ _ _ h hF => ⟨h.2, hF⟩
end Jvm.Pilot.@@N@@
namespace Jvm.Pilot.@@N@@
open Jvm Jvm.ClassFile Sem Op Lib Jvm.Free Jvm.Stand Jvm.Pilot.@@N@@.Jvm.D
/-! MADE BY PROGRAM (witnessworld.py) out of the Statement's table words and the real class files: 11 classes; the members and pool entries that the words name. The judged class is class 1, her method 1. -/
namespace start1
open Jvm.ClassFile
def u (s : String) : CpInfo := .utf8 (stringToUtf16 s)
/-- a pool by its gaps: so many unusable entries, then the entry; so many at the end -/
def gap : Nat → List CpInfo → List CpInfo
  | 0, r => r
  | n + 1, r => .unusable :: gap n r
def poolList (es : List (Nat × CpInfo)) (last : Nat) : List CpInfo := es.foldr (fun e r => gap e.1 (e.2 :: r)) (gap last [])
def pool (es : List (Nat × CpInfo)) (last : Nat) : Array CpInfo := ⟨poolList es last⟩
def fileOf (pool : Array CpInfo) (this : Nat) (attrs : Array Attribute := #[]) (ms : Array MethodInfo := #[]) (fl : Nat := 33) (sup : Nat := 0) (ifs : Array Nat := #[]) (fds : Array FieldInfo := #[]) : ClassFile where
  minorVersion := 0
  majorVersion := 65
  constantPool := pool
  accessFlags := fl
  thisClass := this
  superClass := sup
  interfaces := ifs
  fields := fds
  methods := ms
  attributes := attrs
def plain (name : String) (sup : Option ClassId) : Class where
  name := name
  kind := .ordinary
  loader := none
  accessFlags := 33
  super := sup
  interfaces := #[]
  cf := none
  fields := #[]
  methods := #[]
  instanceTypes := #[]
  staticTypes := #[]
  resolved := #[]
  callSites := []
  init := .initialized
  statics := none
  mirror := none

def pool0 : Array CpInfo := pool [(5, u "<init>"), (0, u "()V"), (1, .class_ 10), (1, u "java/lang/Object")] 113

def k0c0 : Code := { maxStack := 0, maxLocals := 1, code := object_method_1_code, exceptionTable := #[], attributes := #[] }
def k0m0 : Method := { name := "<init>", desc := "()V", sig := { parameters := [], returnType := none }, accessFlags := 1, code := some k0c0 }
/-- java/lang/Object -/
def k0 : Class := { plain "java/lang/Object" none with
  accessFlags := 33
  interfaces := #[]
  cf := some (fileOf pool0 8 #[] #[{ accessFlags := 1, nameIndex := 5, descriptorIndex := 6, attributes := #[] }] 33 0 #[] #[])
  fields := #[]
  methods := #[k0m0]
  instanceTypes := #[]
  staticTypes := #[]
  resolved := Array.replicate 124 none
  statics := none }

def pool1 : Array CpInfo := pool [(2, .class_ 4), (1, u "java/lang/Object"), (0, u "<init>"), (0, u "()V"), (2, .long 9223372036854775807), (1, .integer 2147483647), (0, .integer 65535), (0, .class_ 14), (0, u "com/example/albatross/albatross/trace/ConstantRate"), (0, .methodref 13 16), (0, .nameAndType 5 17), (0, u "(JJIII)V"), (0, .long 8000000000), (1, .methodref 13 21), (0, .nameAndType 22 23), (0, u "nextTime"), (0, u "()J"), (0, .long 2), (1, .long 3), (1, .long 4), (1, .long 5), (1, .class_ 33), (0, u "com/example/albatross/albatross/trace/ConstantRateNextTimePinLaw"), (2, u "law"), (0, u "(JJIII)Z")] 3

def k1m0 : Method := { name := "<init>", desc := "()V", sig := { parameters := [], returnType := none }, accessFlags := 1, code := none }
def k1c1 : Code := { maxStack := 10, maxLocals := 28, code := code, exceptionTable := #[], attributes := #[] }
def k1m1 : Method := { name := "law", desc := "(JJIII)Z", sig := { parameters := [.long, .long, .int, .int, .int], returnType := some .boolean }, accessFlags := 9, code := some k1c1 }
/-- com/example/albatross/albatross/trace/ConstantRateNextTimePinLaw -/
def k1 : Class := { plain "com/example/albatross/albatross/trace/ConstantRateNextTimePinLaw" (some 0) with
  accessFlags := 49
  interfaces := #[]
  cf := some (fileOf pool1 32 #[] #[{ accessFlags := 1, nameIndex := 5, descriptorIndex := 6, attributes := #[] }, { accessFlags := 9, nameIndex := 36, descriptorIndex := 37, attributes := #[] }] 49 2 #[] #[])
  fields := #[]
  methods := #[k1m0, k1m1]
  instanceTypes := #[]
  staticTypes := #[]
  resolved := Array.replicate 41 none
  statics := none }

def pool2 : Array CpInfo := pool [(1, .class_ 2), (0, u "com/example/albatross/albatross/trace/Traffic"), (0, .class_ 4), (0, u "java/lang/Object")] 6

/-- com/example/albatross/albatross/trace/Traffic -/
def k2 : Class := { plain "com/example/albatross/albatross/trace/Traffic" (some 0) with
  accessFlags := 1537
  interfaces := #[]
  cf := some (fileOf pool2 1 #[] #[] 1537 3 #[] #[])
  fields := #[]
  methods := #[]
  instanceTypes := #[]
  staticTypes := #[]
  resolved := Array.replicate 11 none
  statics := none }

def pool3 : Array CpInfo := pool [(1, .methodref 2 3), (0, .class_ 4), (0, .nameAndType 5 6), (0, u "java/lang/Object"), (0, u "<init>"), (0, u "()V"), (0, .fieldref 8 9), (0, .class_ 10), (0, .nameAndType 11 12), (0, u "com/example/albatross/albatross/trace/Train"), (0, u "start"), (0, u "J"), (0, .fieldref 8 14), (0, .nameAndType 15 16), (0, u "length"), (0, u "I"), (0, .fieldref 8 18), (0, .nameAndType 19 16), (0, u "destination"), (0, .fieldref 8 21), (0, .nameAndType 22 16), (0, u "dscp"), (10, .class_ 34), (0, u "com/example/albatross/albatross/trace/Traffic"), (0, u "SENDER"), (1, u "(JIII)V")] 6

def k3c0 : Code := { maxStack := 3, maxLocals := 6, code := prog_59_method_1_code, exceptionTable := #[], attributes := #[] }
def k3m0 : Method := { name := "<init>", desc := "(JIII)V", sig := { parameters := [.long, .int, .int, .int], returnType := none }, accessFlags := 0, code := some k3c0 }
/-- com/example/albatross/albatross/trace/Train -/
def k3 : Class := { plain "com/example/albatross/albatross/trace/Train" (some 0) with
  accessFlags := 1056
  interfaces := #[2]
  cf := some (fileOf pool3 8 #[] #[{ accessFlags := 0, nameIndex := 5, descriptorIndex := 37, attributes := #[] }] 1056 2 #[33] #[{ accessFlags := 26, nameIndex := 35, descriptorIndex := 16, attributes := #[] }, { accessFlags := 18, nameIndex := 11, descriptorIndex := 12, attributes := #[] }, { accessFlags := 18, nameIndex := 15, descriptorIndex := 16, attributes := #[] }, { accessFlags := 18, nameIndex := 19, descriptorIndex := 16, attributes := #[] }, { accessFlags := 18, nameIndex := 22, descriptorIndex := 16, attributes := #[] }])
  fields := #[{ name := "SENDER", type := .int, accessFlags := 26, slot := 0, constantValue := 0 }, { name := "start", type := .long, accessFlags := 18, slot := 0, constantValue := 0 }, { name := "length", type := .int, accessFlags := 18, slot := 1, constantValue := 0 }, { name := "destination", type := .int, accessFlags := 18, slot := 2, constantValue := 0 }, { name := "dscp", type := .int, accessFlags := 18, slot := 3, constantValue := 0 }]
  methods := #[k3m0]
  instanceTypes := #[.long, .int, .int, .int]
  staticTypes := #[.int]
  resolved := Array.replicate 44 none
  statics := none }

def pool4 : Array CpInfo := pool [(1, .methodref 2 3), (0, .class_ 4), (0, .nameAndType 5 6), (0, u "com/example/albatross/albatross/trace/Train"), (0, u "<init>"), (0, u "(JIII)V"), (0, .long 8000000000), (1, .fieldref 10 11), (0, .class_ 12), (0, .nameAndType 13 14), (0, u "com/example/albatross/albatross/trace/ConstantRate"), (0, u "rate"), (0, u "J"), (0, .fieldref 10 16), (0, .nameAndType 17 14), (0, u "step"), (0, .fieldref 10 19), (0, .nameAndType 20 14), (0, u "stepRemainder"), (0, .fieldref 10 22), (0, .nameAndType 23 14), (0, u "time"), (0, .fieldref 10 25), (0, .nameAndType 26 14), (0, u "remainder"), (7, u "()J"), (0, u "(JJIII)V"), (2, u "nextTime")] 3

def k4c0 : Code := { maxStack := 6, maxLocals := 10, code := prog_47_method_1_code, exceptionTable := #[], attributes := #[] }
def k4m0 : Method := { name := "<init>", desc := "(JJIII)V", sig := { parameters := [.long, .long, .int, .int, .int], returnType := none }, accessFlags := 1, code := some k4c0 }
def k4c1 : Code := { maxStack := 7, maxLocals := 3, code := prog_47_method_2_code, exceptionTable := #[], attributes := #[] }
def k4m1 : Method := { name := "nextTime", desc := "()J", sig := { parameters := [], returnType := some .long }, accessFlags := 0, code := some k4c1 }
/-- com/example/albatross/albatross/trace/ConstantRate -/
def k4 : Class := { plain "com/example/albatross/albatross/trace/ConstantRate" (some 3) with
  accessFlags := 33
  interfaces := #[]
  cf := some (fileOf pool4 10 #[] #[{ accessFlags := 1, nameIndex := 5, descriptorIndex := 35, attributes := #[] }, { accessFlags := 0, nameIndex := 38, descriptorIndex := 34, attributes := #[] }] 33 2 #[] #[{ accessFlags := 18, nameIndex := 13, descriptorIndex := 14, attributes := #[] }, { accessFlags := 18, nameIndex := 17, descriptorIndex := 14, attributes := #[] }, { accessFlags := 18, nameIndex := 20, descriptorIndex := 14, attributes := #[] }, { accessFlags := 2, nameIndex := 23, descriptorIndex := 14, attributes := #[] }, { accessFlags := 2, nameIndex := 26, descriptorIndex := 14, attributes := #[] }])
  fields := #[{ name := "rate", type := .long, accessFlags := 18, slot := 4, constantValue := 0 }, { name := "step", type := .long, accessFlags := 18, slot := 5, constantValue := 0 }, { name := "stepRemainder", type := .long, accessFlags := 18, slot := 6, constantValue := 0 }, { name := "time", type := .long, accessFlags := 2, slot := 7, constantValue := 0 }, { name := "remainder", type := .long, accessFlags := 2, slot := 8, constantValue := 0 }]
  methods := #[k4m0, k4m1]
  instanceTypes := #[.long, .int, .int, .int, .long, .long, .long, .long, .long]
  staticTypes := #[]
  resolved := Array.replicate 42 none
  statics := none }

def pool5 : Array CpInfo := pool [(1, u "java/lang/Cloneable"), (0, .class_ 1), (0, u "java/lang/Object"), (0, .class_ 3)] 3

/-- java/lang/Cloneable -/
def k5 : Class := { plain "java/lang/Cloneable" (some 0) with
  accessFlags := 1537
  interfaces := #[]
  cf := some (fileOf pool5 2 #[] #[] 1537 4 #[] #[])
  fields := #[]
  methods := #[]
  instanceTypes := #[]
  staticTypes := #[]
  resolved := Array.replicate 8 none
  statics := none }

def pool6 : Array CpInfo := pool [(1, u "java/io/Serializable"), (0, .class_ 1), (0, u "java/lang/Object"), (0, .class_ 3)] 3

/-- java/io/Serializable -/
def k6 : Class := { plain "java/io/Serializable" (some 0) with
  accessFlags := 1537
  interfaces := #[]
  cf := some (fileOf pool6 2 #[] #[] 1537 4 #[] #[])
  fields := #[]
  methods := #[]
  instanceTypes := #[]
  staticTypes := #[]
  resolved := Array.replicate 8 none
  statics := none }

/-- the primitive byte -/
def k7 : Class := { plain "byte" none with kind := .primitive 'B', accessFlags := 0x411 }
/-- [B -/
def k8 : Class := { plain "[B" (some 0) with kind := .array 7 .byte, interfaces := #[5, 6], accessFlags := 1041 }

/-- the primitive int -/
def k9 : Class := { plain "int" none with kind := .primitive 'I', accessFlags := 0x411 }
/-- [I -/
def k10 : Class := { plain "[I" (some 0) with kind := .array 9 .int, interfaces := #[5, 6], accessFlags := 1041 }

def heap : Heap := #[]
def classes : Array Class := #[k0, k1, k2, k3, k4, k5, k6, k7, k8, k9, k10]
def interned : List (Array UInt16 × Addr) := []
def slotsUsed : Nat := 0
def theMethod : MethodId := ⟨1, 1⟩
def args0 : Array Value := #[.long 5, .long 5, .int 5, .int 5, .int 5]
def aboutOver (below : List Frame) : State where
  vm := { classes := classes, interned := interned.toArray }
  heap := heap
  slotsUsed := slotsUsed
  threads := #[{ frames := .invoking theMethod args0 :: below }]
def below0 : List Frame := [.native { method := ⟨0, 0⟩, args := #[] }]
def about1 : State := aboutOver below0
def p0 : Program := .bare "" "" ""
def e0 : Env := launch0.env 0 0 0
theorem w_frames : about1.frames = Frame.invoking theMethod args0 :: below0 := rfl
set_option maxRecDepth 65536 in
theorem w_args : argsFit about1.vm theMethod args0 = true := by decide +kernel
set_option maxRecDepth 65536 in
theorem w_heap : heapFits about1 = true := by decide +kernel
set_option maxRecDepth 65536 in
theorem w_runnable : about1.curStatus? = some .runnable := by decide +kernel
set_option maxRecDepth 65536 in
theorem w_alone : about1.alone = true := by decide +kernel
set_option maxRecDepth 65536 in
theorem w_named : about1.methodNamed? x = some theMethod := by decide +kernel
set_option maxRecDepth 65536 in
theorem w_hears : about1.hears theMethod below0 = true := by decide +kernel
set_option maxRecDepth 65536 in
theorem w_ripe : about1.ripe theMethod args0 below0 = true := by decide +kernel
theorem w_running : about1.status = .running := rfl
set_option maxRecDepth 65536 in
theorem w_room : about1.hasRoom e0.platform room_1 = true :=
  launch0.hasRoom_least _ room_1 (by decide +kernel) (by decide +kernel) (by decide +kernel) (by decide +kernel) (by decide +kernel) (by decide +kernel)
theorem allAtoms_all (ts : List Jvm.Cond) (a : Array Jvm.Value) (st : Jvm.State) : (allAtoms ts).before a st = ts.all (fun c => c.before a st) := by
  induction ts with
  | nil => rfl
  | cons c t ih =>
    show (Jvm.Cond.and c (allAtoms t)).before a st = _
    rw [Jvm.Cond.before_and, ih, List.all_cons]
def words1 : List Jvm.Cond := Jvm.Cond.code x code maxLocals ret :: tables_1
/-- a 'code' word, met by the world's own term for the bytes: nothing is compared byte by byte -/
theorem code_word {y : MethodName} {bytes : ByteArray} {mx : Nat} {rt : Option FieldType} {a : Array Value} {s : State} {m : MethodId} {meth : Method} {c : Code} (h1 : s.methodNamed? y = some m) (h2 : s.vm.method? m = some meth) (h3 : meth.code = some c) (h4 : c.code = bytes)
    (h5 : (c.maxLocals == mx && c.exceptionTable.isEmpty && decide (c.maxStack ≤ mostOperands) && decide (meth.sig.returnType = rt) && !meth.locks && decide (parseMethodDescriptor y.desc = some meth.sig)) = true) : (Jvm.Cond.code y bytes mx rt).before a s = true := by
  simp only [Bool.and_eq_true, beq_iff_eq, Bool.not_eq_true', decide_eq_true_eq] at h5
  obtain ⟨⟨⟨⟨⟨g1, g2⟩, g3⟩, g4⟩, g5⟩, g6⟩ := h5
  simp [Cond.before, Cond.holds, Cond.value, h1, h2, h3, h4, g1, g2, g3, g4, g5, g6]
def isCode : Jvm.Cond → Bool
  | .code _ _ _ _ => true
  | _ => false
theorem all_split {L : List Jvm.Cond} {P : Jvm.Cond → Bool} (h1 : L.all (fun c => isCode c || P c) = true) (h2 : ∀ c ∈ L.filter isCode, P c = true) : L.all P = true := by
  refine List.all_eq_true.mpr fun c hc => ?_
  have h := List.all_eq_true.mp h1 c hc
  rcases Bool.eq_false_or_eq_true (isCode c) with hi | hi
  · exact h2 c (List.mem_filter.mpr ⟨hc, hi⟩)
  · simpa [hi] using h
set_option maxRecDepth 65536 in
theorem w_c0 : (Jvm.Cond.code x code maxLocals ret).before args0 about1 = true := code_word (m := ⟨1, 1⟩) (meth := k1m1) (c := k1c1) (by decide +kernel) rfl rfl rfl (by decide +kernel)
set_option maxRecDepth 65536 in
theorem w_c1 : (Jvm.Cond.code ({ cls := "com/example/albatross/albatross/trace/ConstantRate", name := "<init>", desc := "(JJIII)V" } : Jvm.MethodName) prog_47_method_1_code (10 : Nat) (Option.none : Option Jvm.ClassFile.FieldType)).before args0 about1 = true := code_word (m := ⟨4, 0⟩) (meth := k4m0) (c := k4c0) (by decide +kernel) rfl rfl rfl (by decide +kernel)
set_option maxRecDepth 65536 in
theorem w_c2 : (Jvm.Cond.code ({ cls := "com/example/albatross/albatross/trace/Train", name := "<init>", desc := "(JIII)V" } : Jvm.MethodName) prog_59_method_1_code (6 : Nat) (Option.none : Option Jvm.ClassFile.FieldType)).before args0 about1 = true := code_word (m := ⟨3, 0⟩) (meth := k3m0) (c := k3c0) (by decide +kernel) rfl rfl rfl (by decide +kernel)
set_option maxRecDepth 65536 in
theorem w_c3 : (Jvm.Cond.code ({ cls := "java/lang/Object", name := "<init>", desc := "()V" } : Jvm.MethodName) object_method_1_code (1 : Nat) (Option.none : Option Jvm.ClassFile.FieldType)).before args0 about1 = true := code_word (m := ⟨0, 0⟩) (meth := k0m0) (c := k0c0) (by decide +kernel) rfl rfl rfl (by decide +kernel)
set_option maxRecDepth 65536 in
theorem w_c4 : (Jvm.Cond.code ({ cls := "com/example/albatross/albatross/trace/ConstantRate", name := "nextTime", desc := "()J" } : Jvm.MethodName) prog_47_method_2_code (3 : Nat) (Option.some Jvm.ClassFile.FieldType.long)).before args0 about1 = true := code_word (m := ⟨4, 1⟩) (meth := k4m1) (c := k4c1) (by decide +kernel) rfl rfl rfl (by decide +kernel)
def codes1 : List Jvm.Cond := [Jvm.Cond.code x code maxLocals ret, Jvm.Cond.code ({ cls := "com/example/albatross/albatross/trace/ConstantRate", name := "<init>", desc := "(JJIII)V" } : Jvm.MethodName) prog_47_method_1_code (10 : Nat) (Option.none : Option Jvm.ClassFile.FieldType), Jvm.Cond.code ({ cls := "com/example/albatross/albatross/trace/Train", name := "<init>", desc := "(JIII)V" } : Jvm.MethodName) prog_59_method_1_code (6 : Nat) (Option.none : Option Jvm.ClassFile.FieldType), Jvm.Cond.code ({ cls := "java/lang/Object", name := "<init>", desc := "()V" } : Jvm.MethodName) object_method_1_code (1 : Nat) (Option.none : Option Jvm.ClassFile.FieldType), Jvm.Cond.code ({ cls := "com/example/albatross/albatross/trace/ConstantRate", name := "nextTime", desc := "()J" } : Jvm.MethodName) prog_47_method_2_code (3 : Nat) (Option.some Jvm.ClassFile.FieldType.long)]
set_option maxRecDepth 65536 in
theorem codes_eq : words1.filter isCode = codes1 := rfl
theorem w_codes : ∀ c ∈ words1.filter isCode, c.before args0 about1 = true := by
  rw [codes_eq]
  intro c hc
  simp only [codes1, List.mem_cons, List.not_mem_nil, or_false] at hc
  rcases hc with rfl | rfl | rfl | rfl | rfl
  · exact w_c0
  · exact w_c1
  · exact w_c2
  · exact w_c3
  · exact w_c4
set_option maxRecDepth 65536 in
theorem w_t1 : (words1.take 24).all (fun c => isCode c || c.before args0 about1) = true := by decide +kernel
set_option maxRecDepth 65536 in
theorem w_t2 : (words1.drop 24).all (fun c => isCode c || c.before args0 about1) = true := by decide +kernel
theorem w_tables : (allAtoms (Jvm.Cond.code x code maxLocals ret :: tables_1)).before args0 about1 = true := by
  rw [allAtoms_all]
  show words1.all (fun c => c.before args0 about1) = true
  refine all_split ?_ w_codes
  rw [← List.take_append_drop 24 words1, List.all_append, w_t1, w_t2]
  rfl
set_option maxRecDepth 65536 in
theorem w_case : (Jvm.Cond.and given_1 narrow_1).before args0 about1 = true := by decide +kernel
theorem w_applies : (headSpec (Jvm.Cond.code x code maxLocals ret :: tables_1) room_1).applies x e0.platform about1 = true :=
  (Spec.applies_iff w_frames).mpr ⟨w_running, w_runnable, w_alone, w_named, w_hears, w_ripe, w_room, w_tables⟩
theorem atStart : AtStart classFile x code maxLocals ret World_1 tables_1 room_1 Calls_1 rest_1 Pre_1 launch0 p0 e0 about1 theMethod args0 below0 :=
  ⟨lists_1, trivial, launch0.admits_env _ _ _, launch0.least_env, fairChoices_fair.cas, fairChoices_fair.clock, w_frames, w_args, w_heap, w_applies, trivial, trivial, w_case⟩
end start1
theorem witness_1 : WitnessClaimed_1 := ⟨start1.p0, start1.e0, start1.about1, start1.theMethod, start1.args0, start1.below0, start1.atStart⟩
end Jvm.Pilot.@@N@@
