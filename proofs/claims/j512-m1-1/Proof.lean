import JvmDerived
import JvmDerived.Pilot.@@N@@Statement
import JvmDerived.Pilot.@@N@@Code
set_option linter.unusedVariables false
set_option linter.unusedSimpArgs false
namespace Jvm.OwnKit
open Sem ClassFile Op Lib Jvm.Stand Jvm.Free Jvm.LawKit Jvm.RoadKit
/-! my own layer: an abstract heap of the objects and arrays that the law makes, and a run that goes on to its end -/
abbrev AH : Type := List (Nat × List Value)
abbrev Dic : Type := Nat → String × List (String × String × String)
def lf (n0 : Nat) : Value → Value
  | .ref i => .ref (n0 + i)
  | v => v
def aty : Nat → FieldType
  | 0 => .int
  | 1 => .char
  | 2 => .byte
  | 3 => .long
  | 4 => .boolean
  | _ => .short
def asI : Option Value → Option Int32
  | some (.int x) => some x
  | _ => none
def asJ : Option Value → Option Int64
  | some (.long x) => some x
  | _ => none
def asR : Option Value → Option Nat
  | some (.ref x) => some x
  | _ => none
theorem asI_s {o : Option Value} {x : Int32} (h : asI o = some x) : o = some (.int x) := by
  unfold asI at h; split at h <;> simp_all
theorem asJ_s {o : Option Value} {x : Int64} (h : asJ o = some x) : o = some (.long x) := by
  unfold asJ at h; split at h <;> simp_all
theorem asR_s {o : Option Value} {x : Nat} (h : asR o = some x) : o = some (.ref x) := by
  unfold asR at h; split at h <;> simp_all
/-- a field, a component: read, written -/
def h_fget (A : AH) (t a k : Nat) : Option Value := match A[a]? with
  | some (t', vs) => if t' = t then vs[k]? else none
  | none => none
def h_fset (A : AH) (t a k : Nat) (v : Value) : Option AH := match A[a]? with
  | some (t', vs) => if t' = t ∧ k < vs.length then some (A.set a (t', vs.set k v)) else none
  | none => none
def h_aget (A : AH) (t a : Nat) (j : Int32) : Option Value := if j < 0 then none else h_fget A t a j.toNatClampNeg
def h_aset (A : AH) (t a : Nat) (j : Int32) (v : Value) : Option AH := if j < 0 then none else h_fset A t a j.toNatClampNeg v
def h_alen (A : AH) (t a : Nat) : Option Int32 := match A[a]? with
  | some (t', vs) => if t' = t then some vs.length.toInt32 else none
  | none => none
def h_onew (A : AH) (t : Nat) (ds : List Value) : Option (Nat × AH) := some (A.length, A ++ [(t, ds)])
def h_anew (A : AH) (t cap : Nat) (n : Int32) (d : Value) : Option (Nat × AH) := if n < 0 ∨ cap < n.toNatClampNeg then none else some (A.length, A ++ [(t, List.replicate n.toNatClampNeg d)])
def h_isA (A : AH) (t a : Nat) : Option Unit := match A[a]? with
  | some (t', _) => if t' = t then some () else none
  | none => none
/-- what the heap holds of them -/
def OKa (Z : State) (h : Heap) (a : Addr) (ty : FieldType) (vs : List Value) : Prop := ∃ cl : Cell, Arr Z h a cl ty ∧ cl.slots.toList = vs ∧ vs.length < 2 ^ 31 ∧ ∀ v ∈ vs, fits ty v = true
def OKo (Z : State) (h : Heap) (a : Addr) (C : String) (L : List (String × String × String)) (vs : List Value) : Prop := Exa Z h a C ∧ ∀ (k : Nat) (O n d : String) (v : Value), L[k]? = some (O, n, d) → vs[k]? = some v → Fld Z h a O n d v
def OKx (D : Dic) (Z : State) (h : Heap) (a : Addr) (t : Nat) (vs : List Value) : Prop := (t < 10 → OKa Z h a (aty t) vs) ∧ (10 ≤ t → OKo Z h a (D t).1 (D t).2 vs)
def Rep (D : Dic) (Z : State) (n0 : Nat) (h : Heap) (A : AH) : Prop := h.size = n0 + A.length ∧ ∀ (i t : Nat) (vs : List Value), A[i]? = some (t, vs) → OKx D Z h (n0 + i) t (vs.map (lf n0))
def Sep (Z : State) (L : List (String × String × String)) : Prop := ∀ (k k' : Nat) (O n d O' n' d' : String), L[k]? = some (O, n, d) → L[k']? = some (O', n', d') → k ≠ k' → Jvm.RoadKit.slotOf Z O n d ≠ Jvm.RoadKit.slotOf Z O' n' d'
theorem Sep.nil {Z : State} : Sep Z [] := fun k k' O n d O' n' d' h => by simp at h
theorem sep_of {Z : State} {a0 : Array Value} {C : String} {L : List (String × String × String)} (hl : ∀ x ∈ L, Laid Z a0 C x.1 x.2.1 x.2.2 ∧ (parseFieldDescriptor x.2.2).isSome = true) (hn : (L.map fun x => x.2.1).Nodup) : Sep Z L := by
  intro k k' O n d O' n' d' h h' ne
  obtain ⟨l1, p1⟩ := hl _ (List.mem_of_getElem? h)
  obtain ⟨l2, p2⟩ := hl _ (List.mem_of_getElem? h')
  obtain ⟨t1, e1⟩ := Option.isSome_iff_exists.mp p1
  obtain ⟨t2, e2⟩ := Option.isSome_iff_exists.mp p2
  refine slot_ne l1 l2 ?_ e1 e2
  intro q
  obtain ⟨b1, g1⟩ := List.getElem?_eq_some_iff.mp h
  obtain ⟨b2, g2⟩ := List.getElem?_eq_some_iff.mp h'
  refine ne ((List.getElem_inj (xs := L.map fun x => x.2.1) (h₀ := by simpa using b1) (h₁ := by simpa using b2) hn).mp ?_)
  simp only [List.getElem_map, g1, g2]; exact q
section Facts
variable {D : Dic} {Z : State} {n0 : Nat} {h h' : Heap} {A A' : AH} {t a k : Nat} {v : Value}
theorem fget_s (hg : h_fget A t a k = some v) : ∃ vs, A[a]? = some (t, vs) ∧ vs[k]? = some v := by
  unfold h_fget at hg; split at hg
  · rename_i t' vs e
    split at hg
    · rename_i q; subst q; exact ⟨vs, e, hg⟩
    · cases hg
  · cases hg
theorem fset_s (hg : h_fset A t a k v = some A') : ∃ vs, A[a]? = some (t, vs) ∧ k < vs.length ∧ A' = A.set a (t, vs.set k v) := by
  unfold h_fset at hg; split at hg
  · rename_i t' vs e
    split at hg
    · rename_i q; obtain ⟨rfl, q⟩ := q; exact ⟨vs, e, q, (Option.some.inj hg).symm⟩
    · cases hg
  · cases hg
theorem aget_s {j : Int32} (hg : h_aget A t a j = some v) : ¬ j < 0 ∧ h_fget A t a j.toNatClampNeg = some v := by
  unfold h_aget at hg; split at hg
  · cases hg
  · exact ⟨by assumption, hg⟩
theorem aset_s {j : Int32} (hg : h_aset A t a j v = some A') : ¬ j < 0 ∧ h_fset A t a j.toNatClampNeg v = some A' := by
  unfold h_aset at hg; split at hg
  · cases hg
  · exact ⟨by assumption, hg⟩
theorem isA_s {u : Unit} (hg : h_isA A t a = some u) : ∃ vs, A[a]? = some (t, vs) := by
  unfold h_isA at hg; split at hg
  · rename_i t' vs e
    split at hg
    · rename_i q; subst q; exact ⟨vs, e⟩
    · cases hg
  · cases hg
theorem Rep.exa (RA : Rep D Z n0 h A) (ht : 10 ≤ t) {vs : List Value} (hA : A[a]? = some (t, vs)) : Exa Z h (n0 + a) (D t).1 := ((RA.2 a t vs hA).2 ht).1
theorem Rep.fld (RA : Rep D Z n0 h A) (ht : 10 ≤ t) (hg : h_fget A t a k = some v) {O n d : String} (hk : (D t).2[k]? = some (O, n, d)) : Fld Z h (n0 + a) O n d (lf n0 v) := by
  obtain ⟨vs, e, q⟩ := fget_s hg
  exact ((RA.2 a t vs e).2 ht).2 k O n d _ hk (by simp [q])
theorem Rep.arr (RA : Rep D Z n0 h A) (ht : t < 10) {vs : List Value} (hA : A[a]? = some (t, vs)) : ∃ cl : Cell, Arr Z h (n0 + a) cl (aty t) ∧ cl.slots.toList = vs.map (lf n0) ∧ vs.length < 2 ^ 31 ∧ ∀ v ∈ vs.map (lf n0), fits (aty t) v = true := by
  obtain ⟨cl, h1, h2, h3, h4⟩ := (RA.2 a t vs hA).1 ht
  exact ⟨cl, h1, h2, by simpa using h3, h4⟩
theorem Rep.at (RA : Rep D Z n0 h A) (ht : t < 10) {j : Int32} (hg : h_aget A t a j = some v) : ∃ cl : Cell, Arr Z h (n0 + a) cl (aty t) ∧ ¬ (j < 0 ∨ cl.slots.size ≤ j.toNatClampNeg) ∧ cl.slots[j.toNatClampNeg]? = some (lf n0 v) := by
  obtain ⟨hj, hg⟩ := aget_s hg
  obtain ⟨vs, e, q⟩ := fget_s hg
  obtain ⟨cl, h1, h2, -⟩ := RA.arr ht e
  have h4 : cl.slots[j.toNatClampNeg]? = some (lf n0 v) := by rw [← Array.getElem?_toList, h2]; simp [q]
  refine ⟨cl, h1, ?_, h4⟩
  rintro (c | c)
  · exact hj c
  · exact absurd (Array.getElem?_eq_some_iff.mp h4).1 (Nat.not_lt.mpr c)
theorem OKx.other {sl : Nat} {w : Value} {b : Addr} {vs : List Value} (X : OKx D Z h b t vs) (W : Wr h h' a sl w) (ne : b ≠ a) : OKx D Z h' b t vs := by
  refine ⟨fun q => ?_, fun q => ?_⟩
  · obtain ⟨cl, h1, h2⟩ := X.1 q; exact ⟨cl, h1.other W ne, h2⟩
  · obtain ⟨h1, h2⟩ := X.2 q; exact ⟨h1.wr W, fun k O n d v e1 e2 => (h2 k O n d v e1 e2).other W (Or.inl ne)⟩
theorem Rep.set (RA : Rep D Z n0 h A) {sl : Nat} {w : Value} {vs : List Value} (hl : a < A.length) (W : Wr h h' (n0 + a) sl w) (hN : OKx D Z h' (n0 + a) t (vs.map (lf n0))) : Rep D Z n0 h' (A.set a (t, vs)) := by
  refine ⟨by rw [W.size, RA.1, List.length_set], fun i t' vs' e => ?_⟩
  by_cases q : a = i
  · subst q
    rw [List.getElem?_set_self hl] at e
    obtain ⟨rfl, rfl⟩ := Prod.mk.inj (Option.some.inj e); exact hN
  · rw [List.getElem?_set_ne q] at e
    exact (RA.2 i t' vs' e).other W (fun z => q (Nat.add_left_cancel z).symm)
theorem Rep.wrF (sep : Sep Z (D t).2) (RA : Rep D Z n0 h A) (ht : 10 ≤ t) (hp : h_fset A t a k v = some A') {O n d : String} (hk : (D t).2[k]? = some (O, n, d)) (W : Wr h h' (n0 + a) (Jvm.RoadKit.slotOf Z O n d) (lf n0 v)) : Rep D Z n0 h' A' := by
  obtain ⟨vs, e, q, rfl⟩ := fset_s hp
  refine RA.set (List.getElem?_eq_some_iff.mp e).1 W ⟨fun z => absurd ht (by omega), fun _ => ?_⟩
  obtain ⟨h1, h2⟩ := (RA.2 a t vs e).2 ht
  refine ⟨h1.wr W, fun k' O' n' d' v' e1 e2 => ?_⟩
  rw [List.map_set] at e2
  by_cases c : k = k'
  · subst c
    rw [List.getElem?_set_self (by simpa using q)] at e2
    cases hk.symm.trans e1
    cases e2
    exact (h2 k O n d _ hk (List.getElem?_eq_getElem (by simpa using q))).same W
  · rw [List.getElem?_set_ne c] at e2
    exact (h2 k' O' n' d' v' e1 e2).other W (Or.inr (sep k' k O' n' d' O n d e1 hk (Ne.symm c)))
theorem Rep.wrA (RA : Rep D Z n0 h A) (ht : t < 10) {j : Int32} (hp : h_aset A t a j v = some A') (hft : fits (aty t) (lf n0 v) = true) (W : Wr h h' (n0 + a) j.toNatClampNeg (lf n0 v)) : Rep D Z n0 h' A' := by
  obtain ⟨-, hp⟩ := aset_s hp
  obtain ⟨vs, e, q, rfl⟩ := fset_s hp
  refine RA.set (List.getElem?_eq_some_iff.mp e).1 W ⟨fun z => ?_, fun z => absurd ht (by omega)⟩
  obtain ⟨cl, h1, h2, h3, h4⟩ := RA.arr ht e
  refine ⟨_, h1.same W, ?_, by simpa using h3, fun u hu => ?_⟩
  · show (cl.slots.setIfInBounds _ _).toList = _
    rw [Array.toList_setIfInBounds, h2, List.map_set]
  · rw [List.map_set] at hu
    rcases List.mem_or_eq_of_mem_set hu with q | q
    · exact h4 u q
    · rw [q]; exact hft
theorem Rep.into (RA : Rep D Z n0 h A) (ht : t < 10) {j : Int32} (hp : h_aset A t a j v = some A') : ∃ cl : Cell, Arr Z h (n0 + a) cl (aty t) ∧ ¬ (j < 0 ∨ cl.slots.size ≤ j.toNatClampNeg) := by
  obtain ⟨hj, hp⟩ := aset_s hp
  obtain ⟨vs, e, q, rfl⟩ := fset_s hp
  obtain ⟨cl, h1, h2, -⟩ := RA.arr ht e
  refine ⟨cl, h1, ?_⟩
  have : cl.slots.size = vs.length := by rw [← Array.length_toList, h2]; simp
  rintro (c | c)
  · exact hj c
  · omega
theorem OKx.ext {b : Addr} {vs : List Value} (X : OKx D Z h b t vs) (E : Ext h h') : OKx D Z h' b t vs := by
  refine ⟨fun q => ?_, fun q => ?_⟩
  · obtain ⟨cl, h1, h2⟩ := X.1 q; exact ⟨cl, h1.ext E, h2⟩
  · obtain ⟨h1, h2⟩ := X.2 q; exact ⟨h1.ext E, fun k O n d v e1 e2 => (h2 k O n d v e1 e2).ext E⟩
theorem ext_push (h : Heap) (cl : Cell) : Ext h (h.push cl) := ⟨by simp, fun a c e => by rw [Array.getElem?_push_lt (Array.getElem?_eq_some_iff.mp e).1]; exact (Array.getElem?_eq_getElem _).symm.trans e⟩
theorem Rep.push (RA : Rep D Z n0 h A) {cl : Cell} {vs : List Value} (hN : OKx D Z (h.push cl) h.size t (vs.map (lf n0))) : Rep D Z n0 (h.push cl) (A ++ [(t, vs)]) := by
  refine ⟨by rw [Array.size_push, RA.1, List.length_append]; rfl, fun i t' vs' e => ?_⟩
  by_cases q : i < A.length
  · rw [List.getElem?_append_left q] at e
    exact (RA.2 i t' vs' e).ext (ext_push h cl)
  · rw [List.getElem?_append_right (Nat.le_of_not_lt q)] at e
    have e0 : i - A.length = 0 := by
      have := (List.getElem?_eq_some_iff.mp e).1; simp at this; omega
    rw [e0] at e
    obtain ⟨rfl, rfl⟩ := Prod.mk.inj (Option.some.inj e)
    have : i = A.length := by omega
    have e2 : n0 + i = h.size := by rw [RA.1, this]
    rw [e2]; exact hN
end Facts
/-! reading and writing, in plain words -/
theorem nar1 : nar .boolean (1 : Int32) = 1 := by decide
theorem nar0 : nar .boolean (0 : Int32) = 0 := by decide
theorem nclamp (j : Int32) : j.toNatClampNeg = j.toInt.toNat := rfl
theorem nneg {j : Int32} : ¬ j < 0 ↔ 0 ≤ j.toInt := by rw [Int32.lt_iff_toInt_lt]; show ¬ _ < (0 : Int) ↔ _; omega
theorem aset_ok {A : AH} {t a : Nat} {vs : List Value} {j : Int32} {v : Value} (hA : A[a]? = some (t, vs)) (h0 : 0 ≤ j.toInt) (h1 : j.toInt < vs.length) : h_aset A t a j v = some (A.set a (t, vs.set j.toInt.toNat v)) := by
  unfold h_aset; rw [if_neg (nneg.mpr h0)]; unfold h_fset; rw [hA]; simp only [nclamp]
  have : j.toInt.toNat < vs.length := by omega
  rw [if_pos ⟨trivial, this⟩]
theorem aget_ok {A : AH} {t a : Nat} {vs : List Value} {j : Int32} (hA : A[a]? = some (t, vs)) (h0 : 0 ≤ j.toInt) : h_aget A t a j = vs[j.toInt.toNat]? := by
  unfold h_aget; rw [if_neg (nneg.mpr h0)]; unfold h_fget; rw [hA]; simp only [nclamp, if_true]
theorem anew_ok {A : AH} {t cap : Nat} {n : Int32} {d : Value} (h0 : 0 ≤ n.toInt) (h1 : n.toInt ≤ cap) : h_anew A t cap n d = some (A.length, A ++ [(t, List.replicate n.toInt.toNat d)]) := by
  unfold h_anew; rw [nclamp, if_neg (by rintro (c | c); exact nneg.mpr h0 c; omega)]
theorem aset1 {t : Nat} {vs : List Value} {j : Int32} {v : Value} (h0 : 0 ≤ j.toInt) (h1 : j.toInt < vs.length) : h_aset [(t, vs)] t 0 j v = some [(t, vs.set j.toInt.toNat v)] := aset_ok rfl h0 h1
theorem aget1 {t : Nat} {vs : List Value} {j : Int32} (h0 : 0 ≤ j.toInt) : h_aget [(t, vs)] t 0 j = vs[j.toInt.toNat]? := aget_ok rfl h0
/-! ### a run that goes on to its end -/
def Go (p : Program) (e : Env) (below : List Frame) (S : State) (G : Outcome → State → Prop) : Prop := ∃ t o, Steps p.tables e below S t ∧ t.status = .running ∧ Ended t below o ∧ G o t
def QR (D : Dic) (Z : State) (n0 : Nat) (r : Option Value) (A : AH) (v : Option Value) (h : Heap) (L : List Loc) : Prop := v = r ∧ Fr n0 L ∧ Rep D Z n0 h A
def Fini (D : Dic) (Z : State) (n0 : Nat) (s : State) (R : Room) (r : Option Value) (A : AH) : Outcome → State → Prop := fun o t => ∃ v L, o = .returned v ∧ QR D Z n0 r A v t.heap L ∧ FrameEnd s o t L R.cells R.slots
def On (p : Program) (l : Launch) (e : Env) (R : Room) (s : State) (m : MethodId) (args : Array Value) (below : List Frame) (meth : Method) (c : Code) (D : Dic) (Z : State) (n0 : Nat) (T : State) (A : AH) (cells slots : Nat) : Prop :=
  ∃ locs, Stand p l e R s m args below meth c T locs cells slots ∧ Fr n0 locs ∧ Rep D Z n0 T.heap A
def Cx (p : Program) (l : Launch) (e : Env) (R : Room) (s : State) (m : MethodId) (meth : Method) (c : Code) (Z : State) (a0 : Array Value) (W : List Jvm.Cond) (own nm : String) (bytes : ByteArray) (ml : Nat) (rt : Option FieldType) : Prop :=
  p.tables.exec = Jvm.exec ∧ Z.Warmed39 s.vm ∧ s.vm.findClass own = some m.cls ∧ c.code = bytes ∧ c.maxLocals = ml ∧ meth.sig.returnType = rt ∧ meth.locks = false ∧ meth.name = nm ∧ ∀ d ∈ W, d.before a0 Z = true
def Met (l : Launch) (D : Dic) (Z : State) (n0 : Nat) (y : MethodName) (bytes : ByteArray) (ml : Nat) (rt : Option FieldType) (R : Room) (as : List Value) (A : AH) (r : Option Value) (A' : AH) : Prop :=
  ∀ (ws : List Jvm.Cond) (h0 : Heap), Rep D Z n0 h0 A → MetFree l y (head1 (Jvm.Cond.code y bytes ml rt :: ws) R) (fun a U => a = as.toArray ∧ Z.Warmed39 U.vm ∧ U.heap = h0) (fun _ _ _ _ _ => True) (fun _ U o U' => ∃ v L, o = .returned v ∧ QR D Z n0 r A' v U'.heap L ∧ FrameEnd U o U' L R.cells R.slots)
section Walk
variable {p : Program} {l : Launch} {e : Env} {R : Room} {s : State} {m : MethodId} {args : Array Value} {below : List Frame} {meth : Method} {c : Code} {Z : State} {a0 : Array Value} {W : List Jvm.Cond} {own nm : String} {bytes : ByteArray} {ml : Nat} {rt : Option FieldType} {D : Dic} {n0 : Nat} {T : State} {A A' : AH} {cells slots : Nat} {G : Outcome → State → Prop} {pc : Nat} {Ls : Array Slot} {st : List Value}
theorem go {S S' : State} (h : ∀ t, Steps p.tables e below S' t → Steps p.tables e below S t) (k : Go p e below S' G) : Go p e below S G := by
  obtain ⟨t, o, h1, h2⟩ := k; exact ⟨t, o, h t h1, h2⟩
theorem On.here (X : On p l e R s m args below meth c D Z n0 T A cells slots) : At T m c below := by obtain ⟨_, X, -⟩ := X; exact X.here
theorem On.more {cells' slots' : Nat} (X : On p l e R s m args below meth c D Z n0 T A cells slots) (hc : cells ≤ cells') (hs : slots ≤ slots') : On p l e R s m args below meth c D Z n0 T A cells' slots' := by
  obtain ⟨locs, X, N⟩ := X; exact ⟨locs, X.more hc hs, N⟩
theorem wd {d : Jvm.Cond} (K : Cx p l e R s m meth c Z a0 W own nm bytes ml rt) {i : Nat} (h : W[i]? = some d) : d.before a0 Z = true := K.2.2.2.2.2.2.2.2 d (List.mem_of_getElem? h)
theorem dc (K : Cx p l e R s m meth c Z a0 W own nm bytes ml rt) {r : Except DecodeError (Instr × Nat)} (h : decode bytes pc = r) : decode c.code pc = r := K.2.2.2.1 ▸ h
theorem ldcI (K : Cx p l e R s m meth c Z a0 W own nm bytes ml rt) (X : On p l e R s m args below meth c D Z n0 T A cells slots) {i idx : Nat} {v : Int32} (w : W[i]? = some (.constant own idx v)) (hd : decode bytes pc = .ok (.ldc idx, 2))
    {pc' : Nat} (hp : pc + 2 = pc') (k : Go p e below (T.setTop (mkF m pc'  Ls (.int v :: st))) G) : Go p e below (T.setTop (mkF m pc Ls st)) G := by
  subst hp
  obtain ⟨locs, X, -⟩ := X
  exact go (X.ldcInt K.1 K.2.2.1 (mvT K.2.1 (wd K w)) (g := mkF m pc Ls st) rfl (dc K hd)) k
theorem ldcwI (K : Cx p l e R s m meth c Z a0 W own nm bytes ml rt) (X : On p l e R s m args below meth c D Z n0 T A cells slots) {i idx : Nat} {v : Int32} (w : W[i]? = some (.constant own idx v)) (hd : decode bytes pc = .ok (.ldc_w idx, 3))
    {pc' : Nat} (hp : pc + 3 = pc') (k : Go p e below (T.setTop (mkF m pc'  Ls (.int v :: st))) G) : Go p e below (T.setTop (mkF m pc Ls st)) G := by
  subst hp
  obtain ⟨locs, X, -⟩ := X
  exact go (X.ldcwInt K.1 K.2.2.1 (mvT K.2.1 (wd K w)) (g := mkF m pc Ls st) rfl (dc K hd)) k
theorem ldcL (K : Cx p l e R s m meth c Z a0 W own nm bytes ml rt) (X : On p l e R s m args below meth c D Z n0 T A cells slots) {i idx : Nat} {v : Int64} (w : W[i]? = some (.constantLong own idx v)) (hd : decode bytes pc = .ok (.ldc2_w idx, 3))
    {pc' : Nat} (hp : pc + 3 = pc') (k : Go p e below (T.setTop (mkF m pc'  Ls (.long v :: st))) G) : Go p e below (T.setTop (mkF m pc Ls st)) G := by
  subst hp
  obtain ⟨locs, X, -⟩ := X
  exact go (X.ldc2Long K.1 K.2.2.1 (mvT K.2.1 (wd K w)) (g := mkF m pc Ls st) rfl (dc K hd)) k
/-! the returns -/
theorem retV (K : Cx p l e R s m meth c Z a0 W own nm bytes ml none) (X : On p l e R s m args below meth c D Z n0 T A cells slots) (hc : cells ≤ R.cells) (hs : slots ≤ R.slots) (hd : decode bytes pc = .ok (.return_, 1)) :
    Go p e below (T.setTop (mkF m pc Ls [])) (Fini D Z n0 s R none A) := by
  obtain ⟨locs, X, N, RA⟩ := X
  obtain ⟨fs, hr, hrun, hended, hW, hsame⟩ := X.leave (v := none) (fun _ => rfl) K.2.2.2.2.2.2.1
  exact ⟨_, _, X.returnOut K.1 K.2.2.2.2.2.1 (dc K hd) hr, hrun, hended, none, locs, rfl, ⟨rfl, N, RA⟩, ⟨_, rfl⟩, hW, hsame.mono hc hs⟩
theorem retX {t : FieldType} {i : Instr} {w : Value} (K : Cx p l e R s m meth c Z a0 W own nm bytes ml (some t)) (X : On p l e R s m args below meth c D Z n0 T A cells slots) (hc : cells ≤ R.cells) (hs : slots ≤ R.slots) (hd : decode bytes pc = .ok (i, 1)) (hn : narrow t w = w)
    (hi : (i = .ireturn ∧ (t = .int ∨ t = .boolean ∨ t = .byte ∨ t = .char ∨ t = .short) ∧ ∃ z, w = .int z) ∨ (i = .lreturn ∧ t = .long ∧ ∃ z, w = .long z) ∨ (i = .dreturn ∧ t = .double ∧ ∃ z, w = .double z) ∨ (i = .freturn ∧ t = .float ∧ ∃ z, w = .float z) ∨ (i = .areturn ∧ t.isReference = true ∧ w.isRef = true)) :
    Go p e below (T.setTop (mkF m pc Ls (w :: st))) (Fini D Z n0 s R (some w) A) := by
  obtain ⟨locs, X, N, RA⟩ := X
  obtain ⟨fs, hr, hrun, hended, hW, hsame⟩ := X.leave (v := some w) (fun h => by rw [K.2.2.2.2.2.1] at h; cases h) K.2.2.2.2.2.2.1
  exact ⟨_, _, Jvm.RoadKit.retOut X K.1 K.2.2.2.2.2.1 hn hi (dc K hd) hr, hrun, hended, some w, locs, rfl, ⟨rfl, N, RA⟩, ⟨_, rfl⟩, hW, hsame.mono hc hs⟩
theorem retI {z : Int32} (K : Cx p l e R s m meth c Z a0 W own nm bytes ml (some .int)) (X : On p l e R s m args below meth c D Z n0 T A cells slots) (hc : cells ≤ R.cells) (hs : slots ≤ R.slots) (hd : decode bytes pc = .ok (.ireturn, 1)) :
    Go p e below (T.setTop (mkF m pc Ls (.int z :: st))) (Fini D Z n0 s R (some (.int z)) A) := retX K X hc hs hd rfl (Or.inl ⟨rfl, Or.inl rfl, z, rfl⟩)
theorem retJ {z : Int64} (K : Cx p l e R s m meth c Z a0 W own nm bytes ml (some .long)) (X : On p l e R s m args below meth c D Z n0 T A cells slots) (hc : cells ≤ R.cells) (hs : slots ≤ R.slots) (hd : decode bytes pc = .ok (.lreturn, 1)) :
    Go p e below (T.setTop (mkF m pc Ls (.long z :: st))) (Fini D Z n0 s R (some (.long z)) A) := retX K X hc hs hd rfl (Or.inr (Or.inl ⟨rfl, rfl, z, rfl⟩))
theorem retR {a : Addr} {t : FieldType} (K : Cx p l e R s m meth c Z a0 W own nm bytes ml (some t)) (ht : t.isReference = true) (hn : narrow t (.ref a) = .ref a) (X : On p l e R s m args below meth c D Z n0 T A cells slots) (hc : cells ≤ R.cells) (hs : slots ≤ R.slots) (hd : decode bytes pc = .ok (.areturn, 1)) :
    Go p e below (T.setTop (mkF m pc Ls (.ref a :: st))) (Fini D Z n0 s R (some (.ref a)) A) := retX K X hc hs hd hn (Or.inr (Or.inr (Or.inr (Or.inr ⟨rfl, ht, rfl⟩))))
theorem retB {z : Int32} {t : FieldType} (K : Cx p l e R s m meth c Z a0 W own nm bytes ml (some t)) (ht : t = .boolean ∨ t = .byte ∨ t = .char ∨ t = .short) (X : On p l e R s m args below meth c D Z n0 T A cells slots) (hc : cells ≤ R.cells) (hs : slots ≤ R.slots) (hd : decode bytes pc = .ok (.ireturn, 1)) :
    Go p e below (T.setTop (mkF m pc Ls (.int z :: st))) (Fini D Z n0 s R (some (.int (nar t z))) A) := by
  obtain ⟨locs, X, N, RA⟩ := X
  obtain ⟨fs, hr, hrun, hended, hW, hsame⟩ := X.leave (v := some (.int (nar t z))) (fun h => by rw [K.2.2.2.2.2.1] at h; cases h) K.2.2.2.2.2.2.1
  exact ⟨_, _, Jvm.RoadKit.retN X K.1 K.2.2.2.2.2.1 ht (dc K hd) hr, hrun, hended, some (.int (nar t z)), locs, rfl, ⟨rfl, N, RA⟩, ⟨_, rfl⟩, hW, hsame.mono hc hs⟩
/-! fields -/
theorem getf (K : Cx p l e R s m meth c Z a0 W own nm bytes ml rt) (X : On p l e R s m args below meth c D Z n0 T A cells slots) {i idx t f a : Nat} {O n d : String} {v : Value} (w : W[i]? = some (.fieldLink own idx O n d)) (hd : decode bytes pc = .ok (.getfield idx, 3))
    (ht : 10 ≤ t) (hk : (D t).2[f]? = some (O, n, d)) (hg : h_fget A t a f = some v)
    {pc' : Nat} (hp : pc + 3 = pc') (k : ∀ T', On p l e R s m args below meth c D Z n0 T' A cells slots → Go p e below (T'.setTop (mkF m pc'  Ls (lf n0 v :: st))) G) : Go p e below (T.setTop (mkF m pc Ls (.ref (n0 + a) :: st))) G := by
  subst hp
  obtain ⟨locs, X, N, RA⟩ := X
  obtain ⟨T', X', e', stp⟩ := getF X K.1 K.2.1 K.2.2.1 (host := "") (Or.inl (wd K w)) Via.refl rfl (RA.fld ht hg hk) (g := mkF m pc Ls (.ref (n0 + a) :: st)) rfl rfl (dc K hd)
  exact go stp (k T' ⟨locs, X', N, by rw [e']; exact RA⟩)
theorem getfI (K : Cx p l e R s m meth c Z a0 W own nm bytes ml rt) (X : On p l e R s m args below meth c D Z n0 T A cells slots) {i idx t f a : Nat} {O n d : String} {v : Int32} (w : W[i]? = some (.fieldLink own idx O n d)) (hd : decode bytes pc = .ok (.getfield idx, 3))
    (ht : 10 ≤ t) (hk : (D t).2[f]? = some (O, n, d)) (hg : asI (h_fget A t a f) = some v)
    {pc' : Nat} (hp : pc + 3 = pc') (k : ∀ T', On p l e R s m args below meth c D Z n0 T' A cells slots → Go p e below (T'.setTop (mkF m pc' Ls (.int v :: st))) G) : Go p e below (T.setTop (mkF m pc Ls (.ref (n0 + a) :: st))) G := getf K X w hd ht hk (asI_s hg) hp k
theorem getfJ (K : Cx p l e R s m meth c Z a0 W own nm bytes ml rt) (X : On p l e R s m args below meth c D Z n0 T A cells slots) {i idx t f a : Nat} {O n d : String} {v : Int64} (w : W[i]? = some (.fieldLink own idx O n d)) (hd : decode bytes pc = .ok (.getfield idx, 3))
    (ht : 10 ≤ t) (hk : (D t).2[f]? = some (O, n, d)) (hg : asJ (h_fget A t a f) = some v)
    {pc' : Nat} (hp : pc + 3 = pc') (k : ∀ T', On p l e R s m args below meth c D Z n0 T' A cells slots → Go p e below (T'.setTop (mkF m pc' Ls (.long v :: st))) G) : Go p e below (T.setTop (mkF m pc Ls (.ref (n0 + a) :: st))) G := getf K X w hd ht hk (asJ_s hg) hp k
theorem getfR (K : Cx p l e R s m meth c Z a0 W own nm bytes ml rt) (X : On p l e R s m args below meth c D Z n0 T A cells slots) {i idx t f a : Nat} {O n d : String} {v : Nat} (w : W[i]? = some (.fieldLink own idx O n d)) (hd : decode bytes pc = .ok (.getfield idx, 3))
    (ht : 10 ≤ t) (hk : (D t).2[f]? = some (O, n, d)) (hg : asR (h_fget A t a f) = some v)
    {pc' : Nat} (hp : pc + 3 = pc') (k : ∀ T', On p l e R s m args below meth c D Z n0 T' A cells slots → Go p e below (T'.setTop (mkF m pc' Ls (.ref (n0 + v) :: st))) G) : Go p e below (T.setTop (mkF m pc Ls (.ref (n0 + a) :: st))) G := getf K X w hd ht hk (asR_s hg) hp k
theorem putf (K : Cx p l e R s m meth c Z a0 W own nm bytes ml rt) (sep : ∀ t, Sep Z (D t).2) (X : On p l e R s m args below meth c D Z n0 T A cells slots) {i idx t f a kk i2 : Nat} {O n d : String} {va v : Value} {ty : FieldType} (w : W[i]? = some (.fieldLink own idx O n d)) (hd : decode bytes pc = .ok (.putfield idx, 3))
    (ht : 10 ≤ t) (hk : (D t).2[f]? = some (O, n, d)) (wl : (Jvm.Cond.lays (D t).1 O n d).before a0 Z = true ∨ ((Jvm.Cond.laysFinal (D t).1 O n d).before a0 Z = true ∧ own = O ∧ nm = "<init>")) (wi : W[i2]? = some (.instantiable (D t).1 kk))
    (hty : parseFieldDescriptor d = some ty) (hn : narrow ty v = lf n0 va) (hf : fits ty (lf n0 va) = true) (hp : h_fset A t a f va = some A')
    {pc' : Nat} (hp : pc + 3 = pc') (k : ∀ T', On p l e R s m args below meth c D Z n0 T' A' cells slots → Go p e below (T'.setTop (mkF m pc'  Ls st)) G) : Go p e below (T.setTop (mkF m pc Ls (v :: .ref (n0 + a) :: st))) G := by
  subst hp
  obtain ⟨locs, X, N, RA⟩ := X
  obtain ⟨vs, hA, hlt, -⟩ := fset_s hp
  have F := RA.fld ht (show h_fget A t a f = some vs[f] by simp [h_fget, hA]) hk
  obtain ⟨T', h', X', e', W', stp⟩ := putFN X K.1 K.2.1 K.2.2.1 (wd K w) Via.refl rfl F (RA.exa ht hA) (wl.imp id fun q => ⟨q.1, q.2.1, K.2.2.2.2.2.2.2.1.trans q.2.2⟩) (wd K wi) hty hn hf (g := mkF m pc Ls (v :: .ref (n0 + a) :: st)) rfl rfl (dc K hd)
  exact go stp (k T' ⟨_, X', Fr.snoc X' N (Nat.le_add_right _ _), by rw [e']; exact RA.wrF (sep t) ht hp hk W'⟩)
/-! new -/
theorem newo (K : Cx p l e R s m meth c Z a0 W own nm bytes ml rt) (X : On p l e R s m args below meth c D Z n0 T A cells slots) {i1 i2 i3 idx n t : Nat} {ds : List Value} (w1 : W[i1]? = some (.classLink own idx (D t).1)) (w2 : W[i2]? = some (.instantiable (D t).1 n)) (w3 : W[i3]? = some (.initialized (D t).1))
    (hd : decode bytes pc = .ok (.new idx, 3)) (hc : cells + 1 ≤ R.cells) (hs : slots + n ≤ R.slots) (ht : 10 ≤ t) (hds : ∀ (k : Nat) (O f d : String) (v : Value), (D t).2[k]? = some (O, f, d) → ds[k]? = some v → ∃ ty, parseFieldDescriptor d = some ty ∧ Laid Z a0 (D t).1 O f d ∧ lf n0 v = defaultValue ty)
    {q : Nat × AH} (hq : h_onew A t ds = some q)
    {pc' : Nat} (hp : pc + 3 = pc') (k : ∀ T', On p l e R s m args below meth c D Z n0 T' q.2 (cells + 1) (slots + n) → Go p e below (T'.setTop (mkF m pc'  Ls (.ref (n0 + q.1) :: st))) G) : Go p e below (T.setTop (mkF m pc Ls st)) G := by
  subst hp
  cases hq
  obtain ⟨locs, X, N, RA⟩ := X
  obtain ⟨vm', cC, kC, h1, h2, h3, h4, X', stp⟩ := X.newCold K.1 K.2.2.1 (mvT K.2.1 (wd K w1)) (mvT K.2.1 (wd K w2)) (mvT K.2.1 (wd K w3)) (g := mkF m pc Ls st) rfl (dc K hd) hc hs
  have hZ := K.2.1
  rw [hZ.alike.findClass] at h1
  obtain ⟨kZ, z1, -⟩ := Vm.findClass_spec h1
  obtain ⟨k', z2, z3⟩ := hZ.alike.2.2 _ _ z1
  cases h2.symm.trans z2
  have ei : kC.instanceTypes = kZ.instanceTypes := by rw [z3]
  have hN : (T.heap.push { cls := cC, slots := kC.instanceTypes.map defaultValue, vm := .none })[T.heap.size]? = some { cls := cC, slots := kC.instanceTypes.map defaultValue, vm := .none } := by simp
  have hsz := RA.1
  refine go stp ?_
  rw [hsz]
  refine k _ ⟨locs, X', N, ?_⟩
  show Rep D Z n0 (T.heap.push _) _
  refine RA.push ⟨fun z => absurd ht (by omega), fun _ => ⟨⟨_, kZ, hN, h1, z1, rfl, fun _ => by simp [ei]⟩, fun j O f d v e1 e2 => ?_⟩⟩
  rw [List.getElem?_map, Option.map_eq_some_iff] at e2
  obtain ⟨v0, e2, rfl⟩ := e2
  obtain ⟨ty, p1, p2, p3⟩ := hds j O f d v0 e1 e2
  obtain ⟨c1, k1, cf, kf, i, f', a1, a2, a3, a4, a5, a6, -⟩ := p2.spec
  cases h1.symm.trans a1
  cases z1.symm.trans a2
  exact ⟨_, cf, kf, i, f', hN, a3, a4, by simp, rfl, a5, by simp [ei, a6, (State.fieldFound?_type a3 p1).2, p3]⟩
theorem newa (K : Cx p l e R s m meth c Z a0 W own nm bytes ml rt) (X : On p l e R s m args below meth c D Z n0 T A cells slots) {i1 t cap : Nat} {at' : ArrayType} {n : Int32} {dv : Value} (w1 : W[i1]? = some (.arrayClass (newarray.typeOf at'))) (hd : decode bytes pc = .ok (.newarray at', 2))
    (hb : cap * 8 ≤ 536870912) (hc : cells + 1 ≤ R.cells) (hs : slots + cap ≤ R.slots) (ht : t < 10) (hty : newarray.typeOf at' = aty t) (hdv : lf n0 dv = defaultValue (aty t)) {q : Nat × AH} (hq : h_anew A t cap n dv = some q)
    {pc' : Nat} (hp : pc + 2 = pc') (k : ∀ T', On p l e R s m args below meth c D Z n0 T' q.2 (cells + 1) (slots + cap) → Go p e below (T'.setTop (mkF m pc'  Ls (.ref (n0 + q.1) :: st))) G) : Go p e below (T.setTop (mkF m pc Ls (.int n :: st))) G := by
  subst hp
  unfold h_anew at hq
  split at hq
  · cases hq
  rename_i hn
  cases hq
  have hn1 : ¬ n < 0 := fun z => hn (Or.inl z)
  have hn2 : n.toNatClampNeg ≤ cap := Nat.le_of_not_lt fun z => hn (Or.inr z)
  have hn3 : n.toNatClampNeg < 2 ^ 31 := (back32 hn1).2
  obtain ⟨locs, X, N, RA⟩ := X
  have hZ := K.2.1
  have hcb : componentBytes (newarray.typeOf at') ≤ 8 := by cases at' <;> decide
  obtain ⟨cA, kA, comp, h1, h2, h3, X', stp⟩ := X.newarrayPrim K.1 (mvA hZ (wd K w1)) (g := mkF m pc Ls (.int n :: st)) rfl (dc K hd) rfl hn1 (Nat.le_trans (Nat.mul_le_mul hn2 hcb) hb) hc (by omega)
  rw [hZ.alike.findClass] at h1
  obtain ⟨kZ, z1, -⟩ := Vm.findClass_spec h1
  obtain ⟨k', z2, z3⟩ := hZ.alike.2.2 _ _ z1
  cases h2.symm.trans z2
  refine go stp ?_
  rw [RA.1]
  refine k _ ⟨locs, X'.more (Nat.le_refl _) (by omega), N, ?_⟩
  show Rep D Z n0 (T.heap.push _) _
  refine RA.push ⟨fun _ => ⟨_, ⟨by simp; rfl, ⟨by simp, kZ, z1, comp, by rw [← hty, ← h3, z3]⟩, by simp⟩, ?_, by simpa using hn3, fun v hv => ?_⟩, fun z => absurd ht (by omega)⟩
  · simp [hty, hdv]
  · rw [List.map_replicate] at hv
    rw [List.eq_of_mem_replicate hv, hdv]; cases aty t <;> rfl
/-! arrays -/
theorem h_alen' (K : Cx p l e R s m meth c Z a0 W own nm bytes ml rt) (X : On p l e R s m args below meth c D Z n0 T A cells slots) {t a : Nat} {n : Int32} (ht : t < 10) (hg : h_alen A t a = some n) (hd : decode bytes pc = .ok (.arraylength, 1))
    {pc' : Nat} (hp : pc + 1 = pc') (k : Go p e below (T.setTop (mkF m pc'  Ls (.int n :: st))) G) : Go p e below (T.setTop (mkF m pc Ls (.ref (n0 + a) :: st))) G := by
  subst hp
  obtain ⟨locs, X, N, RA⟩ := X
  unfold h_alen at hg
  split at hg
  · rename_i t' vs e
    split at hg
    · rename_i q; subst q
      cases hg
      obtain ⟨cl, h1, h2, -⟩ := RA.arr ht e
      have : cl.slots.size = vs.length := by rw [← Array.length_toList, h2]; simp
      rw [← this] at k
      exact go (X.arraylength K.1 h1.1 (State.isArrayOf_alike K.2.1.alike h1.2.1) (g := mkF m pc Ls (.ref (n0 + a) :: st)) rfl rfl (dc K hd)) k
    · cases hg
  · cases hg
theorem ald0 (K : Cx p l e R s m meth c Z a0 W own nm bytes ml rt) (X : On p l e R s m args below meth c D Z n0 T A cells slots) {a : Nat} {j : Int32} {v : Value} (hg : h_aget A 0 a j = some v) (hd : decode bytes pc = .ok (.iaload, 1))
    {pc' : Nat} (hp : pc + 1 = pc') (k : Go p e below (T.setTop (mkF m pc'  Ls (lf n0 v :: st))) G) : Go p e below (T.setTop (mkF m pc Ls (.int j :: .ref (n0 + a) :: st))) G := by
  subst hp
  obtain ⟨locs, X, N, RA⟩ := X
  obtain ⟨cl, h1, h2, h3⟩ := RA.at (by decide) hg
  exact go (X.iaload K.1 h1.1 (State.isArrayOf_alike K.2.1.alike h1.2.1) h1.2.2 h2 h3 (g := mkF m pc Ls (.int j :: .ref (n0 + a) :: st)) rfl rfl (dc K hd)) k
theorem ald1 (K : Cx p l e R s m meth c Z a0 W own nm bytes ml rt) (X : On p l e R s m args below meth c D Z n0 T A cells slots) {a : Nat} {j : Int32} {v : Value} (hg : h_aget A 1 a j = some v) (hd : decode bytes pc = .ok (.caload, 1))
    {pc' : Nat} (hp : pc + 1 = pc') (k : Go p e below (T.setTop (mkF m pc'  Ls (lf n0 v :: st))) G) : Go p e below (T.setTop (mkF m pc Ls (.int j :: .ref (n0 + a) :: st))) G := by
  subst hp
  obtain ⟨locs, X, N, RA⟩ := X
  obtain ⟨cl, h1, h2, h3⟩ := RA.at (by decide) hg
  exact go (X.caload K.1 h1.1 (State.isArrayOf_alike K.2.1.alike h1.2.1) h1.2.2 h2 h3 (g := mkF m pc Ls (.int j :: .ref (n0 + a) :: st)) rfl rfl (dc K hd)) k
theorem ald2 (K : Cx p l e R s m meth c Z a0 W own nm bytes ml rt) (X : On p l e R s m args below meth c D Z n0 T A cells slots) {a : Nat} {j : Int32} {v : Value} (hg : h_aget A 2 a j = some v) (hd : decode bytes pc = .ok (.baload, 1))
    {pc' : Nat} (hp : pc + 1 = pc') (k : Go p e below (T.setTop (mkF m pc'  Ls (lf n0 v :: st))) G) : Go p e below (T.setTop (mkF m pc Ls (.int j :: .ref (n0 + a) :: st))) G := by
  subst hp
  obtain ⟨locs, X, N, RA⟩ := X
  obtain ⟨cl, h1, h2, h3⟩ := RA.at (by decide) hg
  exact go (X.baloadBytes K.1 h1.1 (State.isArrayOf_alike K.2.1.alike h1.2.1) h1.2.2 h2 h3 (g := mkF m pc Ls (.int j :: .ref (n0 + a) :: st)) rfl rfl (dc K hd)) k
theorem ald3 (K : Cx p l e R s m meth c Z a0 W own nm bytes ml rt) (X : On p l e R s m args below meth c D Z n0 T A cells slots) {a : Nat} {j : Int32} {v : Value} (hg : h_aget A 3 a j = some v) (hd : decode bytes pc = .ok (.laload, 1))
    {pc' : Nat} (hp : pc + 1 = pc') (k : Go p e below (T.setTop (mkF m pc'  Ls (lf n0 v :: st))) G) : Go p e below (T.setTop (mkF m pc Ls (.int j :: .ref (n0 + a) :: st))) G := by
  subst hp
  obtain ⟨locs, X, N, RA⟩ := X
  obtain ⟨cl, h1, h2, h3⟩ := RA.at (by decide) hg
  exact go (X.laload K.1 h1.1 (State.isArrayOf_alike K.2.1.alike h1.2.1) h1.2.2 h2 h3 (g := mkF m pc Ls (.int j :: .ref (n0 + a) :: st)) rfl rfl (dc K hd)) k
theorem ald4 (K : Cx p l e R s m meth c Z a0 W own nm bytes ml rt) (X : On p l e R s m args below meth c D Z n0 T A cells slots) {a : Nat} {j : Int32} {v : Value} (hg : h_aget A 4 a j = some v) (hd : decode bytes pc = .ok (.baload, 1))
    {pc' : Nat} (hp : pc + 1 = pc') (k : Go p e below (T.setTop (mkF m pc'  Ls (lf n0 v :: st))) G) : Go p e below (T.setTop (mkF m pc Ls (.int j :: .ref (n0 + a) :: st))) G := by
  subst hp
  obtain ⟨locs, X, N, RA⟩ := X
  obtain ⟨cl, h1, h2, h3⟩ := RA.at (by decide) hg
  exact go (X.baloadBooleans K.1 h1.1 (State.isArrayOf_alike K.2.1.alike h1.2.1) h1.2.2 h2 h3 (g := mkF m pc Ls (.int j :: .ref (n0 + a) :: st)) rfl rfl (dc K hd)) k
theorem ld0 (K : Cx p l e R s m meth c Z a0 W own nm bytes ml rt) (X : On p l e R s m args below meth c D Z n0 T A cells slots) {a : Nat} {j : Int32} {v : Int32} (hg : asI (h_aget A 0 a j) = some v) (hd : decode bytes pc = .ok (.iaload, 1))
    {pc' : Nat} (hp : pc + 1 = pc') (k : Go p e below (T.setTop (mkF m pc' Ls (.int v :: st))) G) : Go p e below (T.setTop (mkF m pc Ls (.int j :: .ref (n0 + a) :: st))) G := ald0 K X (asI_s hg) hd hp k
theorem ld1 (K : Cx p l e R s m meth c Z a0 W own nm bytes ml rt) (X : On p l e R s m args below meth c D Z n0 T A cells slots) {a : Nat} {j : Int32} {v : Int32} (hg : asI (h_aget A 1 a j) = some v) (hd : decode bytes pc = .ok (.caload, 1))
    {pc' : Nat} (hp : pc + 1 = pc') (k : Go p e below (T.setTop (mkF m pc' Ls (.int v :: st))) G) : Go p e below (T.setTop (mkF m pc Ls (.int j :: .ref (n0 + a) :: st))) G := ald1 K X (asI_s hg) hd hp k
theorem ld2 (K : Cx p l e R s m meth c Z a0 W own nm bytes ml rt) (X : On p l e R s m args below meth c D Z n0 T A cells slots) {a : Nat} {j : Int32} {v : Int32} (hg : asI (h_aget A 2 a j) = some v) (hd : decode bytes pc = .ok (.baload, 1))
    {pc' : Nat} (hp : pc + 1 = pc') (k : Go p e below (T.setTop (mkF m pc' Ls (.int v :: st))) G) : Go p e below (T.setTop (mkF m pc Ls (.int j :: .ref (n0 + a) :: st))) G := ald2 K X (asI_s hg) hd hp k
theorem ld3 (K : Cx p l e R s m meth c Z a0 W own nm bytes ml rt) (X : On p l e R s m args below meth c D Z n0 T A cells slots) {a : Nat} {j : Int32} {v : Int64} (hg : asJ (h_aget A 3 a j) = some v) (hd : decode bytes pc = .ok (.laload, 1))
    {pc' : Nat} (hp : pc + 1 = pc') (k : Go p e below (T.setTop (mkF m pc' Ls (.long v :: st))) G) : Go p e below (T.setTop (mkF m pc Ls (.int j :: .ref (n0 + a) :: st))) G := ald3 K X (asJ_s hg) hd hp k
theorem ld4 (K : Cx p l e R s m meth c Z a0 W own nm bytes ml rt) (X : On p l e R s m args below meth c D Z n0 T A cells slots) {a : Nat} {j : Int32} {v : Int32} (hg : asI (h_aget A 4 a j) = some v) (hd : decode bytes pc = .ok (.baload, 1))
    {pc' : Nat} (hp : pc + 1 = pc') (k : Go p e below (T.setTop (mkF m pc' Ls (.int v :: st))) G) : Go p e below (T.setTop (mkF m pc Ls (.int j :: .ref (n0 + a) :: st))) G := ald4 K X (asI_s hg) hd hp k
theorem ast0 (K : Cx p l e R s m meth c Z a0 W own nm bytes ml rt) (X : On p l e R s m args below meth c D Z n0 T A cells slots) {a : Nat} {j x : Int32} (hp : h_aset A 0 a j (.int x) = some A') (hd : decode bytes pc = .ok (.iastore, 1))
    {pc' : Nat} (hp : pc + 1 = pc') (k : ∀ T', On p l e R s m args below meth c D Z n0 T' A' cells slots → Go p e below (T'.setTop (mkF m pc'  Ls st)) G) : Go p e below (T.setTop (mkF m pc Ls (.int x :: .int j :: .ref (n0 + a) :: st))) G := by
  subst hp
  obtain ⟨locs, X, N, RA⟩ := X
  obtain ⟨cl, h1, h2⟩ := RA.into (by decide) hp
  obtain ⟨T', h', X', e', W', stp⟩ := stI X K.1 K.2.1 rfl h1 h2 (g := mkF m pc Ls (.int x :: .int j :: .ref (n0 + a) :: st)) rfl rfl (dc K hd)
  exact go stp (k T' ⟨_, X', Fr.snoc X' N (Nat.le_add_right _ _), by rw [e']; exact RA.wrA (by decide) hp rfl W'⟩)
theorem ast1 (K : Cx p l e R s m meth c Z a0 W own nm bytes ml rt) (X : On p l e R s m args below meth c D Z n0 T A cells slots) {a : Nat} {j x : Int32} (hp : h_aset A 1 a j (.int (nar .char x)) = some A') (hd : decode bytes pc = .ok (.castore, 1))
    {pc' : Nat} (hp : pc + 1 = pc') (k : ∀ T', On p l e R s m args below meth c D Z n0 T' A' cells slots → Go p e below (T'.setTop (mkF m pc'  Ls st)) G) : Go p e below (T.setTop (mkF m pc Ls (.int x :: .int j :: .ref (n0 + a) :: st))) G := by
  subst hp
  obtain ⟨locs, X, N, RA⟩ := X
  obtain ⟨cl, h1, h2⟩ := RA.into (by decide) hp
  obtain ⟨T', h', X', e', W', stp⟩ := stC X K.1 K.2.1 rfl h1 h2 (g := mkF m pc Ls (.int x :: .int j :: .ref (n0 + a) :: st)) rfl rfl (dc K hd)
  exact go stp (k T' ⟨_, X', Fr.snoc X' N (Nat.le_add_right _ _), by rw [e']; exact RA.wrA (by decide) hp (fits_nar_char _) W'⟩)
theorem ast2 (K : Cx p l e R s m meth c Z a0 W own nm bytes ml rt) (X : On p l e R s m args below meth c D Z n0 T A cells slots) {a : Nat} {j x : Int32} (hp : h_aset A 2 a j (.int (nar .byte x)) = some A') (hd : decode bytes pc = .ok (.bastore, 1))
    {pc' : Nat} (hp : pc + 1 = pc') (k : ∀ T', On p l e R s m args below meth c D Z n0 T' A' cells slots → Go p e below (T'.setTop (mkF m pc'  Ls st)) G) : Go p e below (T.setTop (mkF m pc Ls (.int x :: .int j :: .ref (n0 + a) :: st))) G := by
  subst hp
  obtain ⟨locs, X, N, RA⟩ := X
  obtain ⟨cl, h1, h2⟩ := RA.into (by decide) hp
  obtain ⟨T', h', X', e', W', stp⟩ := stB X K.1 K.2.1 rfl h1 h2 (g := mkF m pc Ls (.int x :: .int j :: .ref (n0 + a) :: st)) rfl rfl (dc K hd)
  exact go stp (k T' ⟨_, X', Fr.snoc X' N (Nat.le_add_right _ _), by rw [e']; exact RA.wrA (by decide) hp (fits_nar_byte _) W'⟩)
theorem ast3 (K : Cx p l e R s m meth c Z a0 W own nm bytes ml rt) (X : On p l e R s m args below meth c D Z n0 T A cells slots) {a : Nat} {j : Int32} {x : Int64} (hp : h_aset A 3 a j (.long x) = some A') (hd : decode bytes pc = .ok (.lastore, 1))
    {pc' : Nat} (hp : pc + 1 = pc') (k : ∀ T', On p l e R s m args below meth c D Z n0 T' A' cells slots → Go p e below (T'.setTop (mkF m pc'  Ls st)) G) : Go p e below (T.setTop (mkF m pc Ls (.long x :: .int j :: .ref (n0 + a) :: st))) G := by
  subst hp
  obtain ⟨locs, X, N, RA⟩ := X
  obtain ⟨cl, h1, h2⟩ := RA.into (by decide) hp
  obtain ⟨T', h', X', e', W', stp⟩ := stJ X K.1 K.2.1 rfl h1 h2 (g := mkF m pc Ls (.long x :: .int j :: .ref (n0 + a) :: st)) rfl rfl (dc K hd)
  exact go stp (k T' ⟨_, X', Fr.snoc X' N (Nat.le_add_right _ _), by rw [e']; exact RA.wrA (by decide) hp rfl W'⟩)
theorem ast4 (K : Cx p l e R s m meth c Z a0 W own nm bytes ml rt) (X : On p l e R s m args below meth c D Z n0 T A cells slots) {a : Nat} {j x : Int32} (hp : h_aset A 4 a j (.int (nar .boolean x)) = some A') (hd : decode bytes pc = .ok (.bastore, 1))
    {pc' : Nat} (hp : pc + 1 = pc') (k : ∀ T', On p l e R s m args below meth c D Z n0 T' A' cells slots → Go p e below (T'.setTop (mkF m pc'  Ls st)) G) : Go p e below (T.setTop (mkF m pc Ls (.int x :: .int j :: .ref (n0 + a) :: st))) G := by
  subst hp
  obtain ⟨locs, X, N, RA⟩ := X
  obtain ⟨cl, h1, h2⟩ := RA.into (by decide) hp
  obtain ⟨T', h', X', e', W', stp⟩ := stZ X K.1 K.2.1 rfl h1 h2 (g := mkF m pc Ls (.int x :: .int j :: .ref (n0 + a) :: st)) rfl rfl (dc K hd)
  exact go stp (k T' ⟨_, X', Fr.snoc X' N (Nat.le_add_right _ _), by rw [e']; exact RA.wrA (by decide) hp (fits_nar_bool _) W'⟩)
/-! calls -/
theorem obj (K : Cx p l e R s m meth c Z a0 W own nm bytes ml rt) (X : On p l e R s m args below meth c D Z n0 T A cells slots) {i1 i2 i3 idx w : Nat} {a : Addr} (w1 : W[i1]? = some (.methodLink own idx Lib.objectInit)) (w2 : W[i2]? = some (.instanceMethod Lib.objectInit)) (w3 : W[i3]? = some (.code Lib.objectInit ⟨#[0xb1]⟩ 1 none))
    (hd : decode bytes pc = .ok (.invokespecial idx, 3)) (hz : Ls.size = ml) (hf : 1 ≤ R.frames) (hw : (st.map fun v => v.category).sum ≤ w) (hl : w + 12 ≤ R.locals)
    {pc' : Nat} (hp : pc + 3 = pc') (k : ∀ T', On p l e R s m args below meth c D Z n0 T' A cells slots → Go p e below (T'.setTop (mkF m pc'  Ls st)) G) : Go p e below (T.setTop (mkF m pc Ls (.ref a :: st))) G := by
  subst hp
  obtain ⟨locs, X, N, RA⟩ := X
  obtain ⟨T', X', e', stp⟩ := initO X K.1 K.2.1 K.2.2.1 (wd K w1) (wd K w2) (wd K w3) rfl (g := mkF m pc Ls (.ref a :: st)) rfl (hz.trans K.2.2.2.2.1.symm) rfl (dc K hd) hf (W := w) (by simpa [JFrame.monitorRoom] using hw) hl
  exact go stp (k T' ⟨locs, X', N, by rw [e']; exact RA⟩)
theorem calls (K : Cx p l e R s m meth c Z a0 W own nm bytes ml rt) (X : On p l e R s m args below meth c D Z n0 T A cells slots) {i1 i2 i3 i4 idx w : Nat} {y : MethodName} {by' : ByteArray} {ml' : Nat} {rt' : Option FieldType} {rm : Room} {as : List Value} {r : Option Value} {S : List Value} {ps : List FieldType}
    (w1 : W[i1]? = some (.methodLink own idx y)) (w2 : W[i2]? = some (.static y)) (w3 : W[i3]? = some (.initialized y.cls)) (w4 : W[i4]? = some (.code y by' ml' rt')) (hy : y.cls ≠ "java/lang/invoke/MethodHandle" ∧ y.cls ≠ "java/lang/invoke/VarHandle")
    (M : Met l D Z n0 y by' ml' rt' rm as A r A') (hpd : parseMethodDescriptor y.desc = some ⟨ps, rt'⟩) (hlen : as.length = ps.length) (hd : decode bytes pc = .ok (.invokestatic idx, 3)) (hz : Ls.size = ml) (hS : S = as.reverse ++ st)
    (hf : rm.frames + 1 ≤ R.frames) (hw : (st.map fun v => v.category).sum ≤ w) (hl : w + (ml' + 11) + rm.locals ≤ R.locals) (hc : cells + rm.cells ≤ R.cells) (hs : slots + rm.slots ≤ R.slots)
    {pc' kc ks : Nat} {S' : List Value} (ec : cells + rm.cells = kc) (es : slots + rm.slots = ks) (hS' : r.toList ++ st = S') (hp : pc + 3 = pc') (k : ∀ T', On p l e R s m args below meth c D Z n0 T' A' kc ks → Go p e below (T'.setTop (mkF m pc' Ls S')) G) : Go p e below (T.setTop (mkF m pc Ls S)) G := by
  subst hp ec es hS'
  obtain ⟨locs, X, N, RA⟩ := X
  obtain ⟨v, vm, ⟨T', L', k', n'⟩, -, X', ⟨Lc, hQ, q1, q2, q3⟩, stp⟩ := Jvm.LawKit.callS X K.1 K.2.2.1 (mvT K.2.1 (wd K w1)) (mvT K.2.1 (wd K w2)) (mvT K.2.1 (wd K w3)) (mvT K.2.1 (wd K w4)) hy
    (backOf (W := w) (M [] T.heap RA) K.2.1 (wd K w4) (wd K w3) hf hl) (g := mkF m pc Ls S) rfl (hz.trans K.2.2.2.2.1.symm) (argsL := as) (rest := st) (lenOf hpd hlen) hS (by simpa [JFrame.monitorRoom] using hw) (dc K hd) (fun _ _ => ⟨rfl, rfl, hc, hs⟩)
  dsimp only [Pt.U, Pt.locs, Pt.cells, Pt.slots] at X' q1 q2 q3 hQ stp
  subst q1 q2 q3
  obtain ⟨rfl, N', RA'⟩ := hQ
  exact go stp (k T' ⟨_, X', Fr.app N N', RA'⟩)
theorem calli (K : Cx p l e R s m meth c Z a0 W own nm bytes ml rt) (X : On p l e R s m args below meth c D Z n0 T A cells slots) {i1 i2 i3 i4 idx w : Nat} {y : MethodName} {by' : ByteArray} {ml' : Nat} {rm : Room} {a : Addr} {as : List Value} {S : List Value} {ps : List FieldType}
    (w1 : W[i1]? = some (.methodLink own idx y)) (w2 : W[i2]? = some (.instanceMethod y)) (w3 : W[i3]? = some (.initialized y.cls)) (w4 : W[i4]? = some (.code y by' ml' none)) (hy1 : y.name = "<init>") (hy : y.cls ≠ "java/lang/invoke/MethodHandle" ∧ y.cls ≠ "java/lang/invoke/VarHandle")
    (M : Met l D Z n0 y by' ml' none rm (.ref a :: as) A none A') (hpd : parseMethodDescriptor y.desc = some ⟨ps, none⟩) (hlen : as.length = ps.length) (hd : decode bytes pc = .ok (.invokespecial idx, 3)) (hz : Ls.size = ml) (hS : S = as.reverse ++ .ref a :: st)
    (hf : rm.frames + 1 ≤ R.frames) (hw : (st.map fun v => v.category).sum ≤ w) (hl : w + (ml' + 11) + rm.locals ≤ R.locals) (hc : cells + rm.cells ≤ R.cells) (hs : slots + rm.slots ≤ R.slots)
    {pc' kc ks : Nat} (ec : cells + rm.cells = kc) (es : slots + rm.slots = ks) (hp : pc + 3 = pc') (k : ∀ T', On p l e R s m args below meth c D Z n0 T' A' kc ks → Go p e below (T'.setTop (mkF m pc'  Ls st)) G) : Go p e below (T.setTop (mkF m pc Ls S)) G := by
  subst hp ec es
  obtain ⟨locs, X, N, RA⟩ := X
  obtain ⟨v, vm, ⟨T', L', k', n'⟩, -, X', ⟨Lc, hQ, q1, q2, q3⟩, stp⟩ := X.specialBack K.1 hy1 K.2.2.1 (mvT K.2.1 (wd K w1)) (mvT K.2.1 (wd K w2)) (mvT K.2.1 (wd K w4)) hy
    (backOf (W := w) (M [] T.heap RA) K.2.1 (wd K w4) (wd K w3) hf hl) (g := mkF m pc Ls S) rfl (hz.trans K.2.2.2.2.1.symm) (Steps.refl _) (a := a) (argsL := as) (rest := st) (lenOf hpd hlen) hS (by simpa [JFrame.monitorRoom] using hw) (dc K hd) (fun _ _ => ⟨rfl, rfl, hc, hs⟩)
  dsimp only [Pt.U, Pt.locs, Pt.cells, Pt.slots] at X' q1 q2 q3 hQ stp
  subst q1 q2 q3
  obtain ⟨rfl, N', RA'⟩ := hQ
  exact go (fun _ q => stp.trans q) (k T' ⟨_, X', Fr.app N N', RA'⟩)
theorem callv (K : Cx p l e R s m meth c Z a0 W own nm bytes ml rt) (X : On p l e R s m args below meth c D Z n0 T A cells slots) {i1 i2 i3 i4 i5 i6 idx w t a : Nat} {u : Unit} {y : MethodName} {by' : ByteArray} {ml' : Nat} {rt' : Option FieldType} {rm : Room} {as : List Value} {r : Option Value} {S : List Value} {ps : List FieldType}
    (w1 : W[i1]? = some (.methodLink own idx y)) (w2 : W[i2]? = some (.declares y)) (w5 : W[i5]? = some (.selects (D t).1 y y)) (w6 : W[i6]? = some (.instanceMethod y)) (w3 : W[i3]? = some (.initialized y.cls)) (w4 : W[i4]? = some (.code y by' ml' rt')) (hy : y.cls ≠ "java/lang/invoke/MethodHandle" ∧ y.cls ≠ "java/lang/invoke/VarHandle")
    (ht : 10 ≤ t) (hA : h_isA A t a = some u) (M : Met l D Z n0 y by' ml' rt' rm (.ref (n0 + a) :: as) A r A') (hpd : parseMethodDescriptor y.desc = some ⟨ps, rt'⟩) (hlen : as.length = ps.length) (hd : decode bytes pc = .ok (.invokevirtual idx, 3)) (hz : Ls.size = ml) (hS : S = as.reverse ++ .ref (n0 + a) :: st)
    (hf : rm.frames + 1 ≤ R.frames) (hw : (st.map fun v => v.category).sum ≤ w) (hl : w + (ml' + 11) + rm.locals ≤ R.locals) (hc : cells + rm.cells ≤ R.cells) (hs : slots + rm.slots ≤ R.slots)
    {pc' kc ks : Nat} {S' : List Value} (ec : cells + rm.cells = kc) (es : slots + rm.slots = ks) (hS' : r.toList ++ st = S') (hp : pc + 3 = pc') (k : ∀ T', On p l e R s m args below meth c D Z n0 T' A' kc ks → Go p e below (T'.setTop (mkF m pc' Ls S')) G) : Go p e below (T.setTop (mkF m pc Ls S)) G := by
  subst hp ec es hS'
  obtain ⟨locs, X, N, RA⟩ := X
  obtain ⟨vs, hA⟩ := isA_s hA
  obtain ⟨cq, kq, q1, q2, q3⟩ := isOf K.2.1 rfl (RA.exa ht hA)
  obtain ⟨v, vm, ⟨T', L', k', n'⟩, -, X', ⟨Lc, hQ, q1, q2, q3⟩, stp⟩ := X.virtualBack K.1 (y := y) (z := y) K.2.2.1 (mvT K.2.1 (wd K w1)) (mvT K.2.1 (wd K w2)) (notFace_of_selects (args := #[]) (mvT K.2.1 (wd K w5))) (mvT K.2.1 (wd K w5)) (mvT K.2.1 (wd K w6)) hy
    (backOf (W := w) (M [] T.heap RA) K.2.1 (wd K w4) (wd K w3) hf hl) q1 q3 (g := mkF m pc Ls S) rfl (hz.trans K.2.2.2.2.1.symm) (Steps.refl _) (argsL := as) (rest := st) (lenOf hpd hlen) hS (by simpa [JFrame.monitorRoom] using hw) (dc K hd) (fun _ _ => ⟨rfl, rfl, hc, hs⟩)
  dsimp only [Pt.U, Pt.locs, Pt.cells, Pt.slots] at X' q1 q2 q3 hQ stp
  subst q1 q2 q3
  obtain ⟨rfl, N', RA'⟩ := hQ
  exact go (fun _ q => stp.trans q) (k T' ⟨_, X', Fr.app N N', RA'⟩)
theorem callp (K : Cx p l e R s m meth c Z a0 W own nm bytes ml rt) (X : On p l e R s m args below meth c D Z n0 T A cells slots) {i1 i2 i3 i4 i5 i6 idx w t a kk : Nat} {u : Unit} {y : MethodName} {by' : ByteArray} {ml' : Nat} {rt' : Option FieldType} {rm : Room} {as : List Value} {r : Option Value} {S : List Value} {ps : List FieldType}
    (w1 : W[i1]? = some (.methodLink own idx y)) (w2 : W[i2]? = some (.privateMethod y)) (w5 : W[i5]? = some (.instantiable y.cls kk)) (w6 : W[i6]? = some (.instanceMethod y)) (w3 : W[i3]? = some (.initialized y.cls)) (w4 : W[i4]? = some (.code y by' ml' rt')) (hy : y.cls ≠ "java/lang/invoke/MethodHandle" ∧ y.cls ≠ "java/lang/invoke/VarHandle")
    (ht : 10 ≤ t) (hA : h_isA A t a = some u) (M : Met l D Z n0 y by' ml' rt' rm (.ref (n0 + a) :: as) A r A') (hpd : parseMethodDescriptor y.desc = some ⟨ps, rt'⟩) (hlen : as.length = ps.length) (hd : decode bytes pc = .ok (.invokevirtual idx, 3)) (hz : Ls.size = ml) (hS : S = as.reverse ++ .ref (n0 + a) :: st)
    (hf : rm.frames + 1 ≤ R.frames) (hw : (st.map fun v => v.category).sum ≤ w) (hl : w + (ml' + 11) + rm.locals ≤ R.locals) (hc : cells + rm.cells ≤ R.cells) (hs : slots + rm.slots ≤ R.slots)
    {pc' kc ks : Nat} {S' : List Value} (ec : cells + rm.cells = kc) (es : slots + rm.slots = ks) (hS' : r.toList ++ st = S') (hp : pc + 3 = pc') (k : ∀ T', On p l e R s m args below meth c D Z n0 T' A' kc ks → Go p e below (T'.setTop (mkF m pc' Ls S')) G) : Go p e below (T.setTop (mkF m pc Ls S)) G := by
  subst hp ec es hS'
  obtain ⟨locs, X, N, RA⟩ := X
  obtain ⟨vs, hA⟩ := isA_s hA
  obtain ⟨cq, q1, q2⟩ := (RA.exa ht hA).cell
  have wi : (Jvm.Cond.instantiable y.cls kk).before #[] s = true := mvT K.2.1 (wd K w5)
  obtain ⟨c0, k0, i1, i2, i3, i4, -⟩ := Cond.instantiable_spec wi
  have hni : k0.isInterface = false := (Bool.or_eq_false_iff.mp i4).1
  have hpr : s.PrivateAt y := Cond.privateMethod_at (mvP K.2.1 (wd K w2) (args := #[]))
  have hin : (Jvm.Cond.instanceMethod y).before args s = true := mvT K.2.1 (wd K w6)
  obtain ⟨v, vm, ⟨T', L', k', n'⟩, -, X', ⟨Lc, hQ, q1, q2, q3⟩, stp⟩ := X.privateBack K.1 (y := y) K.2.2.1 (mvT K.2.1 (wd K w1)) hin (selects_self_of_private i1 i2 hni hpr hin hy) hpr (mvT K.2.1 (wd K w4)) hy
    (backOf (W := w) (M [] T.heap RA) K.2.1 (wd K w4) (wd K w3) hf hl) (g := mkF m pc Ls S) rfl (hz.trans K.2.2.2.2.1.symm) (Steps.refl _) (a := n0 + a) q1 q2 (argsL := as) (rest := st) (lenOf hpd hlen) hS (by simpa [JFrame.monitorRoom] using hw) (dc K hd) (fun _ _ => ⟨rfl, rfl, hc, hs⟩)
  dsimp only [Pt.U, Pt.locs, Pt.cells, Pt.slots] at X' q1 q2 q3 hQ stp
  subst q1 q2 q3
  obtain ⟨rfl, N', RA'⟩ := hQ
  exact go (fun _ q => stp.trans q) (k T' ⟨_, X', Fr.app N N', RA'⟩)
/-! a body by its blocks -/
theorem met {y : MethodName} {as : List Value} {r : Option Value} {L0 : Array Slot} (hp : plainFor y = true) (hw : ∀ d ∈ W, d.before a0 Z = true) (hn : y.cls = own) (hnn : y.name = nm) (hef : ∀ m, entryFrame m as.toArray ml = mkF m 0 L0 [])
    (hb : ∀ (p : Program) (e : Env) (s : State) (m : MethodId) (below : List Frame) (meth : Method) (c : Code) (T : State), Cx p l e R s m meth c Z a0 W own nm bytes ml rt → On p l e R s m as.toArray below meth c D Z n0 T A 0 0 → Go p e below (T.setTop (mkF m 0 L0 [])) (Fini D Z n0 s R r A')) :
    Met l D Z n0 y bytes ml rt R as A r A' := by
  intro ws h0 RA
  refine MetFree.of_bodySF hp hisR ?_
  intro p e s m args below meth c s₁ Bd hml0 hP hK
  obtain ⟨rfl, hZ, hh⟩ := hP
  have hown : s.vm.findClass own = some m.cls := hn ▸ findClass_of_methodNamed Bd.named
  have hnm := (name_of_methodNamed Bd.named Bd.method).1
  have X0 : Stand p l e R s m as.toArray below meth c s₁ [] 0 0 := Stand.of_body Bd
  have e0 : s₁.heap = h0 := by rw [← hh, Bd.state]; rfl
  have := hb p e s m below meth c s₁ ⟨Bd.exec, hZ, hown, Bd.bytes, hml0, Bd.returns, Bd.notSynchronized, hnm.trans hnn, hw⟩ ⟨[], X0, Fr.nil n0, by rw [e0]; exact RA⟩
  obtain ⟨t, o, h1, h2, h3, h4⟩ := this
  exact ⟨t, o, castTop (hef m) h1, h2, h3, h4⟩
end Walk
end Jvm.OwnKit
namespace Jvm.OwnKit
open Sem ClassFile Op Lib Jvm.Stand Jvm.Free Jvm.LawKit Jvm.RoadKit
section Instr
variable {p : Program} {l : Launch} {e : Env} {R : Room} {s : State} {m : MethodId} {args : Array Value} {below : List Frame} {meth : Method} {c : Code} {Z : State} {a0 : Array Value} {W : List Jvm.Cond} {own nm : String} {bytes : ByteArray} {ml : Nat} {rt : Option FieldType} {D : Dic} {n0 : Nat} {T : State} {A A' : AH} {cells slots : Nat} {G : Outcome → State → Prop} {pc : Nat} {Ls : Array Slot} {st : List Value}
theorem i_iadd (K : Cx p l e R s m meth c Z a0 W own nm bytes ml rt) (X : On p l e R s m args below meth c D Z n0 T A cells slots) {x y : Int32} {pc' : Nat} (hd : decode bytes pc = .ok (.iadd, 1)) (hp : pc + 1 = pc')
    (k : Go p e below (T.setTop (mkF m pc' Ls (.int (x + y) :: st))) G) : Go p e below (T.setTop (mkF m pc Ls (.int y :: .int x :: st))) G := by
  subst hp; exact go (fun _ => XS.iadd X.here K.1 (g := mkF m pc Ls (.int y :: .int x :: st)) rfl (dc K hd) rfl) k
theorem i_isub (K : Cx p l e R s m meth c Z a0 W own nm bytes ml rt) (X : On p l e R s m args below meth c D Z n0 T A cells slots) {x y : Int32} {pc' : Nat} (hd : decode bytes pc = .ok (.isub, 1)) (hp : pc + 1 = pc')
    (k : Go p e below (T.setTop (mkF m pc' Ls (.int (x - y) :: st))) G) : Go p e below (T.setTop (mkF m pc Ls (.int y :: .int x :: st))) G := by
  subst hp; exact go (fun _ => XS.isub X.here K.1 (g := mkF m pc Ls (.int y :: .int x :: st)) rfl (dc K hd) rfl) k
theorem i_imul (K : Cx p l e R s m meth c Z a0 W own nm bytes ml rt) (X : On p l e R s m args below meth c D Z n0 T A cells slots) {x y : Int32} {pc' : Nat} (hd : decode bytes pc = .ok (.imul, 1)) (hp : pc + 1 = pc')
    (k : Go p e below (T.setTop (mkF m pc' Ls (.int (x * y) :: st))) G) : Go p e below (T.setTop (mkF m pc Ls (.int y :: .int x :: st))) G := by
  subst hp; exact go (fun _ => XS.imul X.here K.1 (g := mkF m pc Ls (.int y :: .int x :: st)) rfl (dc K hd) rfl) k
theorem i_iand (K : Cx p l e R s m meth c Z a0 W own nm bytes ml rt) (X : On p l e R s m args below meth c D Z n0 T A cells slots) {x y : Int32} {pc' : Nat} (hd : decode bytes pc = .ok (.iand, 1)) (hp : pc + 1 = pc')
    (k : Go p e below (T.setTop (mkF m pc' Ls (.int (x &&& y) :: st))) G) : Go p e below (T.setTop (mkF m pc Ls (.int y :: .int x :: st))) G := by
  subst hp; exact go (fun _ => XS.iand X.here K.1 (g := mkF m pc Ls (.int y :: .int x :: st)) rfl (dc K hd) rfl) k
theorem i_ior (K : Cx p l e R s m meth c Z a0 W own nm bytes ml rt) (X : On p l e R s m args below meth c D Z n0 T A cells slots) {x y : Int32} {pc' : Nat} (hd : decode bytes pc = .ok (.ior, 1)) (hp : pc + 1 = pc')
    (k : Go p e below (T.setTop (mkF m pc' Ls (.int (x ||| y) :: st))) G) : Go p e below (T.setTop (mkF m pc Ls (.int y :: .int x :: st))) G := by
  subst hp; exact go (fun _ => XS.ior X.here K.1 (g := mkF m pc Ls (.int y :: .int x :: st)) rfl (dc K hd) rfl) k
theorem i_ixor (K : Cx p l e R s m meth c Z a0 W own nm bytes ml rt) (X : On p l e R s m args below meth c D Z n0 T A cells slots) {x y : Int32} {pc' : Nat} (hd : decode bytes pc = .ok (.ixor, 1)) (hp : pc + 1 = pc')
    (k : Go p e below (T.setTop (mkF m pc' Ls (.int (x ^^^ y) :: st))) G) : Go p e below (T.setTop (mkF m pc Ls (.int y :: .int x :: st))) G := by
  subst hp; exact go (fun _ => XS.ixor X.here K.1 (g := mkF m pc Ls (.int y :: .int x :: st)) rfl (dc K hd) rfl) k
theorem i_ishl (K : Cx p l e R s m meth c Z a0 W own nm bytes ml rt) (X : On p l e R s m args below meth c D Z n0 T A cells slots) {x y : Int32} {pc' : Nat} (hd : decode bytes pc = .ok (.ishl, 1)) (hp : pc + 1 = pc')
    (k : Go p e below (T.setTop (mkF m pc' Ls (.int (x <<< (y &&& 31)) :: st))) G) : Go p e below (T.setTop (mkF m pc Ls (.int y :: .int x :: st))) G := by
  subst hp; exact go (fun _ => XS.ishl X.here K.1 (g := mkF m pc Ls (.int y :: .int x :: st)) rfl (dc K hd) rfl) k
theorem i_ishr (K : Cx p l e R s m meth c Z a0 W own nm bytes ml rt) (X : On p l e R s m args below meth c D Z n0 T A cells slots) {x y : Int32} {pc' : Nat} (hd : decode bytes pc = .ok (.ishr, 1)) (hp : pc + 1 = pc')
    (k : Go p e below (T.setTop (mkF m pc' Ls (.int (x >>> (y &&& 31)) :: st))) G) : Go p e below (T.setTop (mkF m pc Ls (.int y :: .int x :: st))) G := by
  subst hp; exact go (fun _ => XS.ishr X.here K.1 (g := mkF m pc Ls (.int y :: .int x :: st)) rfl (dc K hd) rfl) k
theorem i_iushr (K : Cx p l e R s m meth c Z a0 W own nm bytes ml rt) (X : On p l e R s m args below meth c D Z n0 T A cells slots) {x y : Int32} {pc' : Nat} (hd : decode bytes pc = .ok (.iushr, 1)) (hp : pc + 1 = pc')
    (k : Go p e below (T.setTop (mkF m pc' Ls (.int ((x.toUInt32 >>> (y &&& 31).toUInt32).toInt32) :: st))) G) : Go p e below (T.setTop (mkF m pc Ls (.int y :: .int x :: st))) G := by
  subst hp; exact go (fun _ => XS.iushr X.here K.1 (g := mkF m pc Ls (.int y :: .int x :: st)) rfl (dc K hd) rfl) k
theorem i_idiv (K : Cx p l e R s m meth c Z a0 W own nm bytes ml rt) (X : On p l e R s m args below meth c D Z n0 T A cells slots) {x y : Int32} {pc' : Nat} (hd : decode bytes pc = .ok (.idiv, 1)) (hp : pc + 1 = pc') (hy : y ≠ 0)
    (k : Go p e below (T.setTop (mkF m pc' Ls (.int (x / y) :: st))) G) : Go p e below (T.setTop (mkF m pc Ls (.int y :: .int x :: st))) G := by
  subst hp; exact go (fun _ => XS.idiv X.here K.1 (g := mkF m pc Ls (.int y :: .int x :: st)) rfl (dc K hd) rfl hy) k
theorem i_irem (K : Cx p l e R s m meth c Z a0 W own nm bytes ml rt) (X : On p l e R s m args below meth c D Z n0 T A cells slots) {x y : Int32} {pc' : Nat} (hd : decode bytes pc = .ok (.irem, 1)) (hp : pc + 1 = pc') (hy : y ≠ 0)
    (k : Go p e below (T.setTop (mkF m pc' Ls (.int (x % y) :: st))) G) : Go p e below (T.setTop (mkF m pc Ls (.int y :: .int x :: st))) G := by
  subst hp; rw [← irem_eq_mod] at k; exact go (fun _ => XS.irem X.here K.1 (g := mkF m pc Ls (.int y :: .int x :: st)) rfl (dc K hd) rfl hy) k
theorem i_ladd (K : Cx p l e R s m meth c Z a0 W own nm bytes ml rt) (X : On p l e R s m args below meth c D Z n0 T A cells slots) {x y : Int64} {pc' : Nat} (hd : decode bytes pc = .ok (.ladd, 1)) (hp : pc + 1 = pc')
    (k : Go p e below (T.setTop (mkF m pc' Ls (.long (x + y) :: st))) G) : Go p e below (T.setTop (mkF m pc Ls (.long y :: .long x :: st))) G := by
  subst hp; exact go (fun _ => XS.ladd X.here K.1 (g := mkF m pc Ls (.long y :: .long x :: st)) rfl (dc K hd) rfl) k
theorem i_lsub (K : Cx p l e R s m meth c Z a0 W own nm bytes ml rt) (X : On p l e R s m args below meth c D Z n0 T A cells slots) {x y : Int64} {pc' : Nat} (hd : decode bytes pc = .ok (.lsub, 1)) (hp : pc + 1 = pc')
    (k : Go p e below (T.setTop (mkF m pc' Ls (.long (x - y) :: st))) G) : Go p e below (T.setTop (mkF m pc Ls (.long y :: .long x :: st))) G := by
  subst hp; exact go (fun _ => XS.lsub X.here K.1 (g := mkF m pc Ls (.long y :: .long x :: st)) rfl (dc K hd) rfl) k
theorem i_lmul (K : Cx p l e R s m meth c Z a0 W own nm bytes ml rt) (X : On p l e R s m args below meth c D Z n0 T A cells slots) {x y : Int64} {pc' : Nat} (hd : decode bytes pc = .ok (.lmul, 1)) (hp : pc + 1 = pc')
    (k : Go p e below (T.setTop (mkF m pc' Ls (.long (x * y) :: st))) G) : Go p e below (T.setTop (mkF m pc Ls (.long y :: .long x :: st))) G := by
  subst hp; exact go (fun _ => XS.lmul X.here K.1 (g := mkF m pc Ls (.long y :: .long x :: st)) rfl (dc K hd) rfl) k
theorem i_land (K : Cx p l e R s m meth c Z a0 W own nm bytes ml rt) (X : On p l e R s m args below meth c D Z n0 T A cells slots) {x y : Int64} {pc' : Nat} (hd : decode bytes pc = .ok (.land, 1)) (hp : pc + 1 = pc')
    (k : Go p e below (T.setTop (mkF m pc' Ls (.long (x &&& y) :: st))) G) : Go p e below (T.setTop (mkF m pc Ls (.long y :: .long x :: st))) G := by
  subst hp; exact go (fun _ => XS.land X.here K.1 (g := mkF m pc Ls (.long y :: .long x :: st)) rfl (dc K hd) rfl) k
theorem i_lor (K : Cx p l e R s m meth c Z a0 W own nm bytes ml rt) (X : On p l e R s m args below meth c D Z n0 T A cells slots) {x y : Int64} {pc' : Nat} (hd : decode bytes pc = .ok (.lor, 1)) (hp : pc + 1 = pc')
    (k : Go p e below (T.setTop (mkF m pc' Ls (.long (x ||| y) :: st))) G) : Go p e below (T.setTop (mkF m pc Ls (.long y :: .long x :: st))) G := by
  subst hp; exact go (fun _ => XS.lor X.here K.1 (g := mkF m pc Ls (.long y :: .long x :: st)) rfl (dc K hd) rfl) k
theorem i_lxor (K : Cx p l e R s m meth c Z a0 W own nm bytes ml rt) (X : On p l e R s m args below meth c D Z n0 T A cells slots) {x y : Int64} {pc' : Nat} (hd : decode bytes pc = .ok (.lxor, 1)) (hp : pc + 1 = pc')
    (k : Go p e below (T.setTop (mkF m pc' Ls (.long (x ^^^ y) :: st))) G) : Go p e below (T.setTop (mkF m pc Ls (.long y :: .long x :: st))) G := by
  subst hp; exact go (fun _ => XS.lxor X.here K.1 (g := mkF m pc Ls (.long y :: .long x :: st)) rfl (dc K hd) rfl) k
theorem i_lshl (K : Cx p l e R s m meth c Z a0 W own nm bytes ml rt) (X : On p l e R s m args below meth c D Z n0 T A cells slots) {x : Int64} {y : Int32} {pc' : Nat} (hd : decode bytes pc = .ok (.lshl, 1)) (hp : pc + 1 = pc')
    (k : Go p e below (T.setTop (mkF m pc' Ls (.long (x <<< (y &&& 0x3f).toInt64) :: st))) G) : Go p e below (T.setTop (mkF m pc Ls (.int y :: .long x :: st))) G := by
  subst hp; exact go (fun _ => XS.lshl X.here K.1 (g := mkF m pc Ls (.int y :: .long x :: st)) rfl (dc K hd) rfl) k
theorem i_lshr (K : Cx p l e R s m meth c Z a0 W own nm bytes ml rt) (X : On p l e R s m args below meth c D Z n0 T A cells slots) {x : Int64} {y : Int32} {pc' : Nat} (hd : decode bytes pc = .ok (.lshr, 1)) (hp : pc + 1 = pc')
    (k : Go p e below (T.setTop (mkF m pc' Ls (.long (x >>> (y &&& 0x3f).toInt64) :: st))) G) : Go p e below (T.setTop (mkF m pc Ls (.int y :: .long x :: st))) G := by
  subst hp; exact go (fun _ => XS.lshr X.here K.1 (g := mkF m pc Ls (.int y :: .long x :: st)) rfl (dc K hd) rfl) k
theorem i_lushr (K : Cx p l e R s m meth c Z a0 W own nm bytes ml rt) (X : On p l e R s m args below meth c D Z n0 T A cells slots) {x : Int64} {y : Int32} {pc' : Nat} (hd : decode bytes pc = .ok (.lushr, 1)) (hp : pc + 1 = pc')
    (k : Go p e below (T.setTop (mkF m pc' Ls (.long ((x.toUInt64 >>> (y &&& 0x3f).toInt64.toUInt64).toInt64) :: st))) G) : Go p e below (T.setTop (mkF m pc Ls (.int y :: .long x :: st))) G := by
  subst hp; exact go (fun _ => XS.lushr X.here K.1 (g := mkF m pc Ls (.int y :: .long x :: st)) rfl (dc K hd) rfl) k
theorem i_ldiv (K : Cx p l e R s m meth c Z a0 W own nm bytes ml rt) (X : On p l e R s m args below meth c D Z n0 T A cells slots) {x y : Int64} {pc' : Nat} (hd : decode bytes pc = .ok (.ldiv, 1)) (hp : pc + 1 = pc') (hy : y ≠ 0)
    (k : Go p e below (T.setTop (mkF m pc' Ls (.long (x / y) :: st))) G) : Go p e below (T.setTop (mkF m pc Ls (.long y :: .long x :: st))) G := by
  subst hp; exact go (fun _ => XS.ldiv X.here K.1 (g := mkF m pc Ls (.long y :: .long x :: st)) rfl (dc K hd) rfl hy) k
theorem i_lrem (K : Cx p l e R s m meth c Z a0 W own nm bytes ml rt) (X : On p l e R s m args below meth c D Z n0 T A cells slots) {x y : Int64} {pc' : Nat} (hd : decode bytes pc = .ok (.lrem, 1)) (hp : pc + 1 = pc') (hy : y ≠ 0)
    (k : Go p e below (T.setTop (mkF m pc' Ls (.long (x - (x / y) * y) :: st))) G) : Go p e below (T.setTop (mkF m pc Ls (.long y :: .long x :: st))) G := by
  subst hp; exact go (fun _ => XS.lrem X.here K.1 (g := mkF m pc Ls (.long y :: .long x :: st)) rfl (dc K hd) rfl hy) k
theorem i_ineg (K : Cx p l e R s m meth c Z a0 W own nm bytes ml rt) (X : On p l e R s m args below meth c D Z n0 T A cells slots) {x : Int32} {pc' : Nat} (hd : decode bytes pc = .ok (.ineg, 1)) (hp : pc + 1 = pc')
    (k : Go p e below (T.setTop (mkF m pc' Ls (.int (-x) :: st))) G) : Go p e below (T.setTop (mkF m pc Ls (.int x :: st))) G := by
  subst hp; exact go (fun _ => XS.ineg X.here K.1 (g := mkF m pc Ls (.int x :: st)) rfl (dc K hd) rfl) k
theorem i_lneg (K : Cx p l e R s m meth c Z a0 W own nm bytes ml rt) (X : On p l e R s m args below meth c D Z n0 T A cells slots) {x : Int64} {pc' : Nat} (hd : decode bytes pc = .ok (.lneg, 1)) (hp : pc + 1 = pc')
    (k : Go p e below (T.setTop (mkF m pc' Ls (.long (-x) :: st))) G) : Go p e below (T.setTop (mkF m pc Ls (.long x :: st))) G := by
  subst hp; exact go (fun _ => XS.lneg X.here K.1 (g := mkF m pc Ls (.long x :: st)) rfl (dc K hd) rfl) k
theorem i_i2b (K : Cx p l e R s m meth c Z a0 W own nm bytes ml rt) (X : On p l e R s m args below meth c D Z n0 T A cells slots) {x : Int32} {pc' : Nat} (hd : decode bytes pc = .ok (.i2b, 1)) (hp : pc + 1 = pc')
    (k : Go p e below (T.setTop (mkF m pc' Ls (.int (x.toInt8.toInt32) :: st))) G) : Go p e below (T.setTop (mkF m pc Ls (.int x :: st))) G := by
  subst hp; exact go (fun _ => XS.i2b X.here K.1 (g := mkF m pc Ls (.int x :: st)) rfl (dc K hd) rfl) k
theorem i_i2c (K : Cx p l e R s m meth c Z a0 W own nm bytes ml rt) (X : On p l e R s m args below meth c D Z n0 T A cells slots) {x : Int32} {pc' : Nat} (hd : decode bytes pc = .ok (.i2c, 1)) (hp : pc + 1 = pc')
    (k : Go p e below (T.setTop (mkF m pc' Ls (.int (x.toUInt32.toUInt16.toUInt32.toInt32) :: st))) G) : Go p e below (T.setTop (mkF m pc Ls (.int x :: st))) G := by
  subst hp; exact go (fun _ => XS.i2c X.here K.1 (g := mkF m pc Ls (.int x :: st)) rfl (dc K hd) rfl) k
theorem i_i2s (K : Cx p l e R s m meth c Z a0 W own nm bytes ml rt) (X : On p l e R s m args below meth c D Z n0 T A cells slots) {x : Int32} {pc' : Nat} (hd : decode bytes pc = .ok (.i2s, 1)) (hp : pc + 1 = pc')
    (k : Go p e below (T.setTop (mkF m pc' Ls (.int (x.toInt16.toInt32) :: st))) G) : Go p e below (T.setTop (mkF m pc Ls (.int x :: st))) G := by
  subst hp; exact go (fun _ => XS.i2s X.here K.1 (g := mkF m pc Ls (.int x :: st)) rfl (dc K hd) rfl) k
theorem i_i2l (K : Cx p l e R s m meth c Z a0 W own nm bytes ml rt) (X : On p l e R s m args below meth c D Z n0 T A cells slots) {x : Int32} {pc' : Nat} (hd : decode bytes pc = .ok (.i2l, 1)) (hp : pc + 1 = pc')
    (k : Go p e below (T.setTop (mkF m pc' Ls (.long (x.toInt64) :: st))) G) : Go p e below (T.setTop (mkF m pc Ls (.int x :: st))) G := by
  subst hp; exact go (fun _ => XS.i2l X.here K.1 (g := mkF m pc Ls (.int x :: st)) rfl (dc K hd) rfl) k
theorem i_l2i (K : Cx p l e R s m meth c Z a0 W own nm bytes ml rt) (X : On p l e R s m args below meth c D Z n0 T A cells slots) {x : Int64} {pc' : Nat} (hd : decode bytes pc = .ok (.l2i, 1)) (hp : pc + 1 = pc')
    (k : Go p e below (T.setTop (mkF m pc' Ls (.int (x.toInt32) :: st))) G) : Go p e below (T.setTop (mkF m pc Ls (.long x :: st))) G := by
  subst hp; exact go (fun _ => XS.l2i X.here K.1 (g := mkF m pc Ls (.long x :: st)) rfl (dc K hd) rfl) k
theorem i_lcmp (K : Cx p l e R s m meth c Z a0 W own nm bytes ml rt) (X : On p l e R s m args below meth c D Z n0 T A cells slots) {x y : Int64} {pc' : Nat} (hd : decode bytes pc = .ok (.lcmp, 1)) (hp : pc + 1 = pc')
    (k : Go p e below (T.setTop (mkF m pc' Ls (.int (lcmpW x y) :: st))) G) : Go p e below (T.setTop (mkF m pc Ls (.long y :: .long x :: st))) G := by
  subst hp; exact go (fun _ => XS.lcmp X.here K.1 (g := mkF m pc Ls (.long y :: .long x :: st)) rfl (dc K hd) rfl) k
theorem i_pop (K : Cx p l e R s m meth c Z a0 W own nm bytes ml rt) (X : On p l e R s m args below meth c D Z n0 T A cells slots) {x : Value} {pc' : Nat} (hd : decode bytes pc = .ok (.pop, 1)) (hp : pc + 1 = pc') (h1 : x.category = 1)
    (k : Go p e below (T.setTop (mkF m pc' Ls (st))) G) : Go p e below (T.setTop (mkF m pc Ls (x :: st))) G := by
  subst hp; exact go (fun _ => XS.pop X.here K.1 (g := mkF m pc Ls (x :: st)) rfl (dc K hd) rfl h1) k
theorem i_dup (K : Cx p l e R s m meth c Z a0 W own nm bytes ml rt) (X : On p l e R s m args below meth c D Z n0 T A cells slots) {x : Value} {pc' : Nat} (hd : decode bytes pc = .ok (.dup, 1)) (hp : pc + 1 = pc') (h1 : x.category = 1)
    (k : Go p e below (T.setTop (mkF m pc' Ls (x :: x :: st))) G) : Go p e below (T.setTop (mkF m pc Ls (x :: st))) G := by
  subst hp; exact go (fun _ => XS.dup X.here K.1 (g := mkF m pc Ls (x :: st)) rfl (dc K hd) rfl h1) k
theorem i_dupX1 (K : Cx p l e R s m meth c Z a0 W own nm bytes ml rt) (X : On p l e R s m args below meth c D Z n0 T A cells slots) {x y : Value} {pc' : Nat} (hd : decode bytes pc = .ok (.dup_x1, 1)) (hp : pc + 1 = pc') (h1 : x.category = 1) (h2 : y.category = 1)
    (k : Go p e below (T.setTop (mkF m pc' Ls (x :: y :: x :: st))) G) : Go p e below (T.setTop (mkF m pc Ls (x :: y :: st))) G := by
  subst hp; exact go (fun _ => XS.dupX1 X.here K.1 (g := mkF m pc Ls (x :: y :: st)) rfl (dc K hd) rfl h1 h2) k
theorem i_swap (K : Cx p l e R s m meth c Z a0 W own nm bytes ml rt) (X : On p l e R s m args below meth c D Z n0 T A cells slots) {x y : Value} {pc' : Nat} (hd : decode bytes pc = .ok (.swap, 1)) (hp : pc + 1 = pc') (h1 : x.category = 1) (h2 : y.category = 1)
    (k : Go p e below (T.setTop (mkF m pc' Ls (y :: x :: st))) G) : Go p e below (T.setTop (mkF m pc Ls (x :: y :: st))) G := by
  subst hp; exact go (fun _ => XS.swap X.here K.1 (g := mkF m pc Ls (x :: y :: st)) rfl (dc K hd) rfl h1 h2) k
theorem i_iload (K : Cx p l e R s m meth c Z a0 W own nm bytes ml rt) (X : On p l e R s m args below meth c D Z n0 T A cells slots) {v : Int32} {i : Nat} {pc' : Nat} (hd : decode bytes pc = .ok (.iload i, 2)) (hp : pc + 2 = pc') (hl : Ls[i]? = some (.val (.int v)))
    (k : Go p e below (T.setTop (mkF m pc' Ls (.int v :: st))) G) : Go p e below (T.setTop (mkF m pc Ls (st))) G := by
  subst hp; exact go (fun _ => XS.iload X.here K.1 (g := mkF m pc Ls (st)) rfl (dc K hd) hl) k
theorem i_iloadN (K : Cx p l e R s m meth c Z a0 W own nm bytes ml rt) (X : On p l e R s m args below meth c D Z n0 T A cells slots) {v : Int32} {i : Fin 4} {pc' : Nat} (hd : decode bytes pc = .ok (.iload_n i, 1)) (hp : pc + 1 = pc') (hl : Ls[i.val]? = some (.val (.int v)))
    (k : Go p e below (T.setTop (mkF m pc' Ls (.int v :: st))) G) : Go p e below (T.setTop (mkF m pc Ls (st))) G := by
  subst hp; exact go (fun _ => XS.iloadN X.here K.1 (g := mkF m pc Ls (st)) rfl (dc K hd) hl) k
theorem i_lload (K : Cx p l e R s m meth c Z a0 W own nm bytes ml rt) (X : On p l e R s m args below meth c D Z n0 T A cells slots) {v : Int64} {i : Nat} {pc' : Nat} (hd : decode bytes pc = .ok (.lload i, 2)) (hp : pc + 2 = pc') (hl : Ls[i]? = some (.val (.long v)))
    (k : Go p e below (T.setTop (mkF m pc' Ls (.long v :: st))) G) : Go p e below (T.setTop (mkF m pc Ls (st))) G := by
  subst hp; exact go (fun _ => XS.lload X.here K.1 (g := mkF m pc Ls (st)) rfl (dc K hd) hl) k
theorem i_lloadN (K : Cx p l e R s m meth c Z a0 W own nm bytes ml rt) (X : On p l e R s m args below meth c D Z n0 T A cells slots) {v : Int64} {i : Fin 4} {pc' : Nat} (hd : decode bytes pc = .ok (.lload_n i, 1)) (hp : pc + 1 = pc') (hl : Ls[i.val]? = some (.val (.long v)))
    (k : Go p e below (T.setTop (mkF m pc' Ls (.long v :: st))) G) : Go p e below (T.setTop (mkF m pc Ls (st))) G := by
  subst hp; exact go (fun _ => XS.lloadN X.here K.1 (g := mkF m pc Ls (st)) rfl (dc K hd) hl) k
theorem i_aload (K : Cx p l e R s m meth c Z a0 W own nm bytes ml rt) (X : On p l e R s m args below meth c D Z n0 T A cells slots) {v : Value} {i : Nat} {pc' : Nat} (hd : decode bytes pc = .ok (.aload i, 2)) (hp : pc + 2 = pc') (hl : Ls[i]? = some (.val v)) (hv : v.isRef = true)
    (k : Go p e below (T.setTop (mkF m pc' Ls (v :: st))) G) : Go p e below (T.setTop (mkF m pc Ls (st))) G := by
  subst hp; exact go (fun _ => XS.aload X.here K.1 (g := mkF m pc Ls (st)) rfl (dc K hd) hl hv) k
theorem i_aloadN (K : Cx p l e R s m meth c Z a0 W own nm bytes ml rt) (X : On p l e R s m args below meth c D Z n0 T A cells slots) {v : Value} {i : Fin 4} {pc' : Nat} (hd : decode bytes pc = .ok (.aload_n i, 1)) (hp : pc + 1 = pc') (hl : Ls[i.val]? = some (.val v)) (hv : v.isRef = true)
    (k : Go p e below (T.setTop (mkF m pc' Ls (v :: st))) G) : Go p e below (T.setTop (mkF m pc Ls (st))) G := by
  subst hp; exact go (fun _ => XS.aloadN X.here K.1 (g := mkF m pc Ls (st)) rfl (dc K hd) hl hv) k
theorem i_istore (K : Cx p l e R s m meth c Z a0 W own nm bytes ml rt) (X : On p l e R s m args below meth c D Z n0 T A cells slots) {v : Int32} {i : Nat} {Ls' : Array Slot} {pc' : Nat} (hd : decode bytes pc = .ok (.istore i, 2)) (hp : pc + 2 = pc') (hl : storeLocals Ls i (.int v) = some Ls')
    (k : Go p e below (T.setTop (mkF m pc' Ls' (st))) G) : Go p e below (T.setTop (mkF m pc Ls (.int v :: st))) G := by
  subst hp; exact go (fun _ => XS.istore X.here K.1 (g := mkF m pc Ls (.int v :: st)) rfl (dc K hd) rfl hl) k
theorem i_istoreN (K : Cx p l e R s m meth c Z a0 W own nm bytes ml rt) (X : On p l e R s m args below meth c D Z n0 T A cells slots) {v : Int32} {i : Fin 4} {Ls' : Array Slot} {pc' : Nat} (hd : decode bytes pc = .ok (.istore_n i, 1)) (hp : pc + 1 = pc') (hl : storeLocals Ls i.val (.int v) = some Ls')
    (k : Go p e below (T.setTop (mkF m pc' Ls' (st))) G) : Go p e below (T.setTop (mkF m pc Ls (.int v :: st))) G := by
  subst hp; exact go (fun _ => XS.istoreN X.here K.1 (g := mkF m pc Ls (.int v :: st)) rfl (dc K hd) rfl hl) k
theorem i_lstore (K : Cx p l e R s m meth c Z a0 W own nm bytes ml rt) (X : On p l e R s m args below meth c D Z n0 T A cells slots) {v : Int64} {i : Nat} {Ls' : Array Slot} {pc' : Nat} (hd : decode bytes pc = .ok (.lstore i, 2)) (hp : pc + 2 = pc') (hl : storeLocals Ls i (.long v) = some Ls')
    (k : Go p e below (T.setTop (mkF m pc' Ls' (st))) G) : Go p e below (T.setTop (mkF m pc Ls (.long v :: st))) G := by
  subst hp; exact go (fun _ => XS.lstore X.here K.1 (g := mkF m pc Ls (.long v :: st)) rfl (dc K hd) rfl hl) k
theorem i_lstoreN (K : Cx p l e R s m meth c Z a0 W own nm bytes ml rt) (X : On p l e R s m args below meth c D Z n0 T A cells slots) {v : Int64} {i : Fin 4} {Ls' : Array Slot} {pc' : Nat} (hd : decode bytes pc = .ok (.lstore_n i, 1)) (hp : pc + 1 = pc') (hl : storeLocals Ls i.val (.long v) = some Ls')
    (k : Go p e below (T.setTop (mkF m pc' Ls' (st))) G) : Go p e below (T.setTop (mkF m pc Ls (.long v :: st))) G := by
  subst hp; exact go (fun _ => XS.lstoreN X.here K.1 (g := mkF m pc Ls (.long v :: st)) rfl (dc K hd) rfl hl) k
theorem i_astore (K : Cx p l e R s m meth c Z a0 W own nm bytes ml rt) (X : On p l e R s m args below meth c D Z n0 T A cells slots) {v : Value} {i : Nat} {Ls' : Array Slot} {pc' : Nat} (hd : decode bytes pc = .ok (.astore i, 2)) (hp : pc + 2 = pc') (hl : storeLocals Ls i v = some Ls') (hv : v.isRef = true)
    (k : Go p e below (T.setTop (mkF m pc' Ls' (st))) G) : Go p e below (T.setTop (mkF m pc Ls (v :: st))) G := by
  subst hp; exact go (fun _ => XS.astore X.here K.1 (g := mkF m pc Ls (v :: st)) rfl (dc K hd) rfl hv hl) k
theorem i_astoreN (K : Cx p l e R s m meth c Z a0 W own nm bytes ml rt) (X : On p l e R s m args below meth c D Z n0 T A cells slots) {v : Value} {i : Fin 4} {Ls' : Array Slot} {pc' : Nat} (hd : decode bytes pc = .ok (.astore_n i, 1)) (hp : pc + 1 = pc') (hl : storeLocals Ls i.val v = some Ls') (hv : v.isRef = true)
    (k : Go p e below (T.setTop (mkF m pc' Ls' (st))) G) : Go p e below (T.setTop (mkF m pc Ls (v :: st))) G := by
  subst hp; exact go (fun _ => XS.astoreN X.here K.1 (g := mkF m pc Ls (v :: st)) rfl (dc K hd) rfl hv hl) k
theorem i_iconst (K : Cx p l e R s m meth c Z a0 W own nm bytes ml rt) (X : On p l e R s m args below meth c D Z n0 T A cells slots) {i : Int} {v : Int32} {pc' : Nat} (hd : decode bytes pc = .ok (.iconst i, 1)) (hp : pc + 1 = pc') (hv : Int32.ofInt i = v)
    (k : Go p e below (T.setTop (mkF m pc' Ls (.int v :: st))) G) : Go p e below (T.setTop (mkF m pc Ls st)) G := by
  subst hp hv; exact go (fun _ => XS.iconst X.here K.1 (g := mkF m pc Ls st) rfl (dc K hd)) k
theorem i_bipush (K : Cx p l e R s m meth c Z a0 W own nm bytes ml rt) (X : On p l e R s m args below meth c D Z n0 T A cells slots) {i : Int} {v : Int32} {pc' : Nat} (hd : decode bytes pc = .ok (.bipush i, 2)) (hp : pc + 2 = pc') (hv : (Int8.ofInt i).toInt32 = v)
    (k : Go p e below (T.setTop (mkF m pc' Ls (.int v :: st))) G) : Go p e below (T.setTop (mkF m pc Ls st)) G := by
  subst hp hv; exact go (fun _ => XS.bipush X.here K.1 (g := mkF m pc Ls st) rfl (dc K hd)) k
theorem i_sipush (K : Cx p l e R s m meth c Z a0 W own nm bytes ml rt) (X : On p l e R s m args below meth c D Z n0 T A cells slots) {i : Int} {v : Int32} {pc' : Nat} (hd : decode bytes pc = .ok (.sipush i, 3)) (hp : pc + 3 = pc') (hv : (Int16.ofInt i).toInt32 = v)
    (k : Go p e below (T.setTop (mkF m pc' Ls (.int v :: st))) G) : Go p e below (T.setTop (mkF m pc Ls st)) G := by
  subst hp hv; exact go (fun _ => XS.sipush X.here K.1 (g := mkF m pc Ls st) rfl (dc K hd)) k
theorem i_lconst (K : Cx p l e R s m meth c Z a0 W own nm bytes ml rt) (X : On p l e R s m args below meth c D Z n0 T A cells slots) {i : Fin 2} {v : Int64} {pc' : Nat} (hd : decode bytes pc = .ok (.lconst i, 1)) (hp : pc + 1 = pc') (hv : Int64.ofNat i = v)
    (k : Go p e below (T.setTop (mkF m pc' Ls (.long v :: st))) G) : Go p e below (T.setTop (mkF m pc Ls st)) G := by
  subst hp hv; exact go (fun _ => XS.lconst X.here K.1 (g := mkF m pc Ls st) rfl (dc K hd)) k
theorem i_aconstNull (K : Cx p l e R s m meth c Z a0 W own nm bytes ml rt) (X : On p l e R s m args below meth c D Z n0 T A cells slots)  {pc' : Nat} (hd : decode bytes pc = .ok (.aconst_null, 1)) (hp : pc + 1 = pc')
    (k : Go p e below (T.setTop (mkF m pc' Ls (.null :: st))) G) : Go p e below (T.setTop (mkF m pc Ls (st))) G := by
  subst hp; exact go (fun _ => XS.aconstNull X.here K.1 (g := mkF m pc Ls (st)) rfl (dc K hd)) k
theorem i_iinc (K : Cx p l e R s m meth c Z a0 W own nm bytes ml rt) (X : On p l e R s m args below meth c D Z n0 T A cells slots) {x y : Int32} {i : Nat} {cst : Int} {Ls' : Array Slot} {pc' : Nat} (hd : decode bytes pc = .ok (.iinc i cst, 3)) (hp : pc + 3 = pc') (hl : Ls[i]? = some (.val (.int x))) (hy : Int32.ofInt cst = y) (hl' : storeLocals Ls i (.int (x + y)) = some Ls')
    (k : Go p e below (T.setTop (mkF m pc' Ls' st)) G) : Go p e below (T.setTop (mkF m pc Ls st)) G := by
  subst hp hy; exact go (fun _ => XS.iinc X.here K.1 (g := mkF m pc Ls st) rfl (dc K hd) hl hl') k
theorem i_goto (K : Cx p l e R s m meth c Z a0 W own nm bytes ml rt) (X : On p l e R s m args below meth c D Z n0 T A cells slots)  {o : Int} {pc' : Nat} (hd : decode bytes pc = .ok (.goto o, 3))  (ho : 0 ≤ (pc : Int) + o) (hp : ((pc : Int) + o).toNat = pc')
    (k : Go p e below (T.setTop (mkF m pc' Ls st)) G) : Go p e below (T.setTop (mkF m pc Ls (st))) G := by
  exact go (fun _ => XS.goto X.here K.1 (g := mkF m pc Ls (st)) rfl (pc0 := pc) (pc' := pc') rfl (dc K hd)  ho hp) k
theorem i_ifYes (K : Cx p l e R s m meth c Z a0 W own nm bytes ml rt) (X : On p l e R s m args below meth c D Z n0 T A cells slots) {cd : ClassFile.Cond} {x : Int32} {o : Int} {pc' : Nat} (hd : decode bytes pc = .ok (.ifCond cd o, 3)) (h : if_icmp.holds cd x 0 = true) (ho : 0 ≤ (pc : Int) + o) (hp : ((pc : Int) + o).toNat = pc')
    (k : Go p e below (T.setTop (mkF m pc' Ls st)) G) : Go p e below (T.setTop (mkF m pc Ls (.int x :: st))) G := by
  exact go (fun _ => XS.ifYes X.here K.1 (g := mkF m pc Ls (.int x :: st)) rfl (pc0 := pc) (pc' := pc') rfl (dc K hd) rfl ((if0 _ _).trans h) ho hp) k
theorem i_icmpYes (K : Cx p l e R s m meth c Z a0 W own nm bytes ml rt) (X : On p l e R s m args below meth c D Z n0 T A cells slots) {cd : ClassFile.Cond} {x y : Int32} {o : Int} {pc' : Nat} (hd : decode bytes pc = .ok (.if_icmp cd o, 3)) (h : if_icmp.holds cd x y = true) (ho : 0 ≤ (pc : Int) + o) (hp : ((pc : Int) + o).toNat = pc')
    (k : Go p e below (T.setTop (mkF m pc' Ls st)) G) : Go p e below (T.setTop (mkF m pc Ls (.int y :: .int x :: st))) G := by
  exact go (fun _ => XS.icmpYes X.here K.1 (g := mkF m pc Ls (.int y :: .int x :: st)) rfl (pc0 := pc) (pc' := pc') rfl (dc K hd) rfl h ho hp) k
theorem i_ifNo (K : Cx p l e R s m meth c Z a0 W own nm bytes ml rt) (X : On p l e R s m args below meth c D Z n0 T A cells slots) {cd : ClassFile.Cond} {x : Int32} {o : Int} {pc' : Nat} (hd : decode bytes pc = .ok (.ifCond cd o, 3)) (hp : pc + 3 = pc') (h : if_icmp.holds cd x 0 = false)
    (k : Go p e below (T.setTop (mkF m pc' Ls (st))) G) : Go p e below (T.setTop (mkF m pc Ls (.int x :: st))) G := by
  subst hp; exact go (fun _ => XS.ifNo X.here K.1 (g := mkF m pc Ls (.int x :: st)) rfl (dc K hd) rfl ((if0 _ _).trans h)) k
theorem i_icmpNo (K : Cx p l e R s m meth c Z a0 W own nm bytes ml rt) (X : On p l e R s m args below meth c D Z n0 T A cells slots) {cd : ClassFile.Cond} {x y : Int32} {o : Int} {pc' : Nat} (hd : decode bytes pc = .ok (.if_icmp cd o, 3)) (hp : pc + 3 = pc') (h : if_icmp.holds cd x y = false)
    (k : Go p e below (T.setTop (mkF m pc' Ls (st))) G) : Go p e below (T.setTop (mkF m pc Ls (.int y :: .int x :: st))) G := by
  subst hp; exact go (fun _ => XS.icmpNo X.here K.1 (g := mkF m pc Ls (.int y :: .int x :: st)) rfl (dc K hd) rfl h) k
theorem i_ifnullYes (K : Cx p l e R s m meth c Z a0 W own nm bytes ml rt) (X : On p l e R s m args below meth c D Z n0 T A cells slots)  {o : Int} {pc' : Nat} (hd : decode bytes pc = .ok (.ifnull o, 3))  (ho : 0 ≤ (pc : Int) + o) (hp : ((pc : Int) + o).toNat = pc')
    (k : Go p e below (T.setTop (mkF m pc' Ls st)) G) : Go p e below (T.setTop (mkF m pc Ls (.null :: st))) G := by
  exact go (fun _ => XS.ifnullYes X.here K.1 (g := mkF m pc Ls (.null :: st)) rfl (pc0 := pc) (pc' := pc') rfl (dc K hd) rfl ho hp) k
theorem i_ifnullNo (K : Cx p l e R s m meth c Z a0 W own nm bytes ml rt) (X : On p l e R s m args below meth c D Z n0 T A cells slots) {b : Addr} {o : Int} {pc' : Nat} (hd : decode bytes pc = .ok (.ifnull o, 3)) (hp : pc + 3 = pc')
    (k : Go p e below (T.setTop (mkF m pc' Ls (st))) G) : Go p e below (T.setTop (mkF m pc Ls (.ref b :: st))) G := by
  subst hp; exact go (fun _ => XS.ifnullNo X.here K.1 (g := mkF m pc Ls (.ref b :: st)) rfl (dc K hd) rfl) k
theorem i_ifnonnullYes (K : Cx p l e R s m meth c Z a0 W own nm bytes ml rt) (X : On p l e R s m args below meth c D Z n0 T A cells slots) {b : Addr} {o : Int} {pc' : Nat} (hd : decode bytes pc = .ok (.ifnonnull o, 3))  (ho : 0 ≤ (pc : Int) + o) (hp : ((pc : Int) + o).toNat = pc')
    (k : Go p e below (T.setTop (mkF m pc' Ls st)) G) : Go p e below (T.setTop (mkF m pc Ls (.ref b :: st))) G := by
  exact go (fun _ => XS.ifnonnullYes X.here K.1 (g := mkF m pc Ls (.ref b :: st)) rfl (pc0 := pc) (pc' := pc') rfl (dc K hd) rfl ho hp) k
theorem i_ifnonnullNo (K : Cx p l e R s m meth c Z a0 W own nm bytes ml rt) (X : On p l e R s m args below meth c D Z n0 T A cells slots) {o : Int} {pc' : Nat} (hd : decode bytes pc = .ok (.ifnonnull o, 3)) (hp : pc + 3 = pc')
    (k : Go p e below (T.setTop (mkF m pc' Ls (st))) G) : Go p e below (T.setTop (mkF m pc Ls (.null :: st))) G := by
  subst hp; exact go (fun _ => XS.ifnonnullNo X.here K.1 (g := mkF m pc Ls (.null :: st)) rfl (dc K hd) rfl) k
theorem i_dup2 (K : Cx p l e R s m meth c Z a0 W own nm bytes ml rt) (X : On p l e R s m args below meth c D Z n0 T A cells slots) {x y : Value} {pc' : Nat} (hd : decode bytes pc = .ok (.dup2, 1)) (hp : pc + 1 = pc') (h1 : x.category = 1) (h2 : y.category = 1)
    (k : Go p e below (T.setTop (mkF m pc' Ls (x :: y :: x :: y :: st))) G) : Go p e below (T.setTop (mkF m pc Ls (x :: y :: st))) G := by
  subst hp; exact go (fun _ => Jvm.Free.XT.dup2 X.here K.1 (g := mkF m pc Ls (x :: y :: st)) rfl (dc K hd) rfl h1 h2) k
theorem i_dup2L (K : Cx p l e R s m meth c Z a0 W own nm bytes ml rt) (X : On p l e R s m args below meth c D Z n0 T A cells slots) {x : Int64} {pc' : Nat} (hd : decode bytes pc = .ok (.dup2, 1)) (hp : pc + 1 = pc') 
    (k : Go p e below (T.setTop (mkF m pc' Ls (.long x :: .long x :: st))) G) : Go p e below (T.setTop (mkF m pc Ls (.long x :: st))) G := by
  subst hp; exact go (fun _ => Jvm.Free.XT.dup2L X.here K.1 (g := mkF m pc Ls (.long x :: st)) rfl (dc K hd) rfl) k
theorem i_dupX2 (K : Cx p l e R s m meth c Z a0 W own nm bytes ml rt) (X : On p l e R s m args below meth c D Z n0 T A cells slots) {x : Int32} {y : Int32} {z : Addr} {pc' : Nat} (hd : decode bytes pc = .ok (.dup_x2, 1)) (hp : pc + 1 = pc')
    (k : Go p e below (T.setTop (mkF m pc' Ls (.int x :: .int y :: .ref z :: .int x :: st))) G) : Go p e below (T.setTop (mkF m pc Ls (.int x :: .int y :: .ref z :: st))) G := by
  subst hp
  refine go (fun t hk => ?_) k
  have hdc := dc K hd
  jvm_step X.here [X.here.top, K.1, hdc, Value.category]
  exact hk
theorem i_dup2X1 (K : Cx p l e R s m meth c Z a0 W own nm bytes ml rt) (X : On p l e R s m args below meth c D Z n0 T A cells slots) {x : Int64} {z : Addr} {pc' : Nat} (hd : decode bytes pc = .ok (.dup2_x1, 1)) (hp : pc + 1 = pc')
    (k : Go p e below (T.setTop (mkF m pc' Ls (.long x :: .ref z :: .long x :: st))) G) : Go p e below (T.setTop (mkF m pc Ls (.long x :: .ref z :: st))) G := by
  subst hp
  refine go (fun t hk => ?_) k
  have hdc := dc K hd
  jvm_step X.here [X.here.top, K.1, hdc, Value.category]
  exact hk
theorem i_dup2X2 (K : Cx p l e R s m meth c Z a0 W own nm bytes ml rt) (X : On p l e R s m args below meth c D Z n0 T A cells slots) {x : Int64} {y : Int32} {z : Addr} {pc' : Nat} (hd : decode bytes pc = .ok (.dup2_x2, 1)) (hp : pc + 1 = pc')
    (k : Go p e below (T.setTop (mkF m pc' Ls (.long x :: .int y :: .ref z :: .long x :: st))) G) : Go p e below (T.setTop (mkF m pc Ls (.long x :: .int y :: .ref z :: st))) G := by
  subst hp
  refine go (fun t hk => ?_) k
  have hdc := dc K hd
  jvm_step X.here [X.here.top, K.1, hdc, Value.category]
  exact hk
theorem stOne {Ls Ls' : Array Slot} {i : Nat} {v : Value} {o : Slot} (h : One o) (hold : Ls[i]? = some o) (hv : v.category = 1) (e : Ls.setIfInBounds i (.val v) = Ls') : storeLocals Ls i v = some Ls' := by
  rw [← e]; exact XS.store1 hold h hv
theorem bs {α β : Type} {o : Option α} {f : α → Option β} {b : β} (h : o.bind f = some b) : ∃ a, o = some a ∧ f a = some b := Option.bind_eq_some_iff.mp h
end Instr
end Jvm.OwnKit
namespace Jvm.Pilot.@@N@@
open Jvm Jvm.ClassFile Sem Op Lib Jvm.Free Jvm.Stand Jvm.LawKit Jvm.RoadKit Jvm.OwnKit Bundle Jvm.Pilot.@@N@@.Jvm.D
def own_D : Dic
  | _ => ("", [])
theorem own_sep {Z : State} {a0 : Array Value} (hw : ∀ d ∈ tables_1, d.before a0 Z = true) : ∀ t, Sep Z (own_D t).2 := by
  intro t
  unfold own_D
  split
  · exact Sep.nil
section OwnWalk
variable {p : Program} {l : Launch} {e : Env} {s : State} {m : MethodId} {args : Array Value} {below : List Frame} {meth : Method} {c : Code} {Z : State} {a0 : Array Value} {n0 : Nat} {T : State} {A : AH} {cells slots : Nat}
/-! body 2: XmlChars.isNameStart(I)Z -/
theorem d2_0 : decode prog_13_method_2_code 0 = .ok (.iload_n 0, 1) := by decide +kernel
theorem d2_1 : decode prog_13_method_2_code 1 = .ok (.bipush 65, 2) := by decide +kernel
theorem d2_3 : decode prog_13_method_2_code 3 = .ok (.if_icmp .lt 9, 3) := by decide +kernel
theorem d2_6 : decode prog_13_method_2_code 6 = .ok (.iload_n 0, 1) := by decide +kernel
theorem d2_7 : decode prog_13_method_2_code 7 = .ok (.bipush 90, 2) := by decide +kernel
theorem d2_9 : decode prog_13_method_2_code 9 = .ok (.if_icmp .le 182, 3) := by decide +kernel
theorem d2_12 : decode prog_13_method_2_code 12 = .ok (.iload_n 0, 1) := by decide +kernel
theorem d2_13 : decode prog_13_method_2_code 13 = .ok (.bipush 95, 2) := by decide +kernel
theorem d2_15 : decode prog_13_method_2_code 15 = .ok (.if_icmp .eq 176, 3) := by decide +kernel
theorem d2_18 : decode prog_13_method_2_code 18 = .ok (.iload_n 0, 1) := by decide +kernel
theorem d2_19 : decode prog_13_method_2_code 19 = .ok (.bipush 97, 2) := by decide +kernel
theorem d2_21 : decode prog_13_method_2_code 21 = .ok (.if_icmp .lt 9, 3) := by decide +kernel
theorem d2_24 : decode prog_13_method_2_code 24 = .ok (.iload_n 0, 1) := by decide +kernel
theorem d2_25 : decode prog_13_method_2_code 25 = .ok (.bipush 122, 2) := by decide +kernel
theorem d2_27 : decode prog_13_method_2_code 27 = .ok (.if_icmp .le 164, 3) := by decide +kernel
theorem d2_30 : decode prog_13_method_2_code 30 = .ok (.iload_n 0, 1) := by decide +kernel
theorem d2_31 : decode prog_13_method_2_code 31 = .ok (.sipush 192, 3) := by decide +kernel
theorem d2_34 : decode prog_13_method_2_code 34 = .ok (.if_icmp .lt 10, 3) := by decide +kernel
theorem d2_37 : decode prog_13_method_2_code 37 = .ok (.iload_n 0, 1) := by decide +kernel
theorem d2_38 : decode prog_13_method_2_code 38 = .ok (.sipush 214, 3) := by decide +kernel
theorem d2_41 : decode prog_13_method_2_code 41 = .ok (.if_icmp .le 150, 3) := by decide +kernel
theorem d2_44 : decode prog_13_method_2_code 44 = .ok (.iload_n 0, 1) := by decide +kernel
theorem d2_45 : decode prog_13_method_2_code 45 = .ok (.sipush 216, 3) := by decide +kernel
theorem d2_48 : decode prog_13_method_2_code 48 = .ok (.if_icmp .lt 10, 3) := by decide +kernel
theorem d2_51 : decode prog_13_method_2_code 51 = .ok (.iload_n 0, 1) := by decide +kernel
theorem d2_52 : decode prog_13_method_2_code 52 = .ok (.sipush 246, 3) := by decide +kernel
theorem d2_55 : decode prog_13_method_2_code 55 = .ok (.if_icmp .le 136, 3) := by decide +kernel
theorem d2_58 : decode prog_13_method_2_code 58 = .ok (.iload_n 0, 1) := by decide +kernel
theorem d2_59 : decode prog_13_method_2_code 59 = .ok (.sipush 248, 3) := by decide +kernel
theorem d2_62 : decode prog_13_method_2_code 62 = .ok (.if_icmp .lt 10, 3) := by decide +kernel
theorem d2_65 : decode prog_13_method_2_code 65 = .ok (.iload_n 0, 1) := by decide +kernel
theorem d2_66 : decode prog_13_method_2_code 66 = .ok (.sipush 767, 3) := by decide +kernel
theorem d2_69 : decode prog_13_method_2_code 69 = .ok (.if_icmp .le 122, 3) := by decide +kernel
theorem d2_72 : decode prog_13_method_2_code 72 = .ok (.iload_n 0, 1) := by decide +kernel
theorem d2_73 : decode prog_13_method_2_code 73 = .ok (.sipush 880, 3) := by decide +kernel
theorem d2_76 : decode prog_13_method_2_code 76 = .ok (.if_icmp .lt 10, 3) := by decide +kernel
theorem d2_79 : decode prog_13_method_2_code 79 = .ok (.iload_n 0, 1) := by decide +kernel
theorem d2_80 : decode prog_13_method_2_code 80 = .ok (.sipush 893, 3) := by decide +kernel
theorem d2_83 : decode prog_13_method_2_code 83 = .ok (.if_icmp .le 108, 3) := by decide +kernel
theorem d2_86 : decode prog_13_method_2_code 86 = .ok (.iload_n 0, 1) := by decide +kernel
theorem d2_87 : decode prog_13_method_2_code 87 = .ok (.sipush 895, 3) := by decide +kernel
theorem d2_90 : decode prog_13_method_2_code 90 = .ok (.if_icmp .lt 10, 3) := by decide +kernel
theorem d2_93 : decode prog_13_method_2_code 93 = .ok (.iload_n 0, 1) := by decide +kernel
theorem d2_94 : decode prog_13_method_2_code 94 = .ok (.sipush 8191, 3) := by decide +kernel
theorem d2_97 : decode prog_13_method_2_code 97 = .ok (.if_icmp .le 94, 3) := by decide +kernel
theorem d2_100 : decode prog_13_method_2_code 100 = .ok (.iload_n 0, 1) := by decide +kernel
theorem d2_101 : decode prog_13_method_2_code 101 = .ok (.sipush 8204, 3) := by decide +kernel
theorem d2_104 : decode prog_13_method_2_code 104 = .ok (.if_icmp .lt 10, 3) := by decide +kernel
theorem d2_107 : decode prog_13_method_2_code 107 = .ok (.iload_n 0, 1) := by decide +kernel
theorem d2_108 : decode prog_13_method_2_code 108 = .ok (.sipush 8205, 3) := by decide +kernel
theorem d2_111 : decode prog_13_method_2_code 111 = .ok (.if_icmp .le 80, 3) := by decide +kernel
theorem d2_114 : decode prog_13_method_2_code 114 = .ok (.iload_n 0, 1) := by decide +kernel
theorem d2_115 : decode prog_13_method_2_code 115 = .ok (.sipush 8304, 3) := by decide +kernel
theorem d2_118 : decode prog_13_method_2_code 118 = .ok (.if_icmp .lt 10, 3) := by decide +kernel
theorem d2_121 : decode prog_13_method_2_code 121 = .ok (.iload_n 0, 1) := by decide +kernel
theorem d2_122 : decode prog_13_method_2_code 122 = .ok (.sipush 8591, 3) := by decide +kernel
theorem d2_125 : decode prog_13_method_2_code 125 = .ok (.if_icmp .le 66, 3) := by decide +kernel
theorem d2_128 : decode prog_13_method_2_code 128 = .ok (.iload_n 0, 1) := by decide +kernel
theorem d2_129 : decode prog_13_method_2_code 129 = .ok (.sipush 11264, 3) := by decide +kernel
theorem d2_132 : decode prog_13_method_2_code 132 = .ok (.if_icmp .lt 10, 3) := by decide +kernel
theorem d2_135 : decode prog_13_method_2_code 135 = .ok (.iload_n 0, 1) := by decide +kernel
theorem d2_136 : decode prog_13_method_2_code 136 = .ok (.sipush 12271, 3) := by decide +kernel
theorem d2_139 : decode prog_13_method_2_code 139 = .ok (.if_icmp .le 52, 3) := by decide +kernel
theorem d2_142 : decode prog_13_method_2_code 142 = .ok (.iload_n 0, 1) := by decide +kernel
theorem d2_143 : decode prog_13_method_2_code 143 = .ok (.sipush 12289, 3) := by decide +kernel
theorem d2_146 : decode prog_13_method_2_code 146 = .ok (.if_icmp .lt 9, 3) := by decide +kernel
theorem d2_149 : decode prog_13_method_2_code 149 = .ok (.iload_n 0, 1) := by decide +kernel
theorem d2_150 : decode prog_13_method_2_code 150 = .ok (.ldc 9, 2) := by decide +kernel
theorem d2_152 : decode prog_13_method_2_code 152 = .ok (.if_icmp .le 39, 3) := by decide +kernel
theorem d2_155 : decode prog_13_method_2_code 155 = .ok (.iload_n 0, 1) := by decide +kernel
theorem d2_156 : decode prog_13_method_2_code 156 = .ok (.ldc 10, 2) := by decide +kernel
theorem d2_158 : decode prog_13_method_2_code 158 = .ok (.if_icmp .lt 9, 3) := by decide +kernel
theorem d2_161 : decode prog_13_method_2_code 161 = .ok (.iload_n 0, 1) := by decide +kernel
theorem d2_162 : decode prog_13_method_2_code 162 = .ok (.ldc 11, 2) := by decide +kernel
theorem d2_164 : decode prog_13_method_2_code 164 = .ok (.if_icmp .le 27, 3) := by decide +kernel
theorem d2_167 : decode prog_13_method_2_code 167 = .ok (.iload_n 0, 1) := by decide +kernel
theorem d2_168 : decode prog_13_method_2_code 168 = .ok (.ldc 12, 2) := by decide +kernel
theorem d2_170 : decode prog_13_method_2_code 170 = .ok (.if_icmp .lt 9, 3) := by decide +kernel
theorem d2_173 : decode prog_13_method_2_code 173 = .ok (.iload_n 0, 1) := by decide +kernel
theorem d2_174 : decode prog_13_method_2_code 174 = .ok (.ldc 13, 2) := by decide +kernel
theorem d2_176 : decode prog_13_method_2_code 176 = .ok (.if_icmp .le 15, 3) := by decide +kernel
theorem d2_179 : decode prog_13_method_2_code 179 = .ok (.iload_n 0, 1) := by decide +kernel
theorem d2_180 : decode prog_13_method_2_code 180 = .ok (.ldc 14, 2) := by decide +kernel
theorem d2_182 : decode prog_13_method_2_code 182 = .ok (.if_icmp .lt 13, 3) := by decide +kernel
theorem d2_185 : decode prog_13_method_2_code 185 = .ok (.iload_n 0, 1) := by decide +kernel
theorem d2_186 : decode prog_13_method_2_code 186 = .ok (.ldc 15, 2) := by decide +kernel
theorem d2_188 : decode prog_13_method_2_code 188 = .ok (.if_icmp .gt 7, 3) := by decide +kernel
theorem d2_191 : decode prog_13_method_2_code 191 = .ok (.iconst 1, 1) := by decide +kernel
theorem d2_192 : decode prog_13_method_2_code 192 = .ok (.goto 4, 3) := by decide +kernel
theorem d2_195 : decode prog_13_method_2_code 195 = .ok (.iconst 0, 1) := by decide +kernel
theorem d2_196 : decode prog_13_method_2_code 196 = .ok (.ireturn, 1) := by decide +kernel
theorem pd_2 : parseMethodDescriptor "(I)Z" = some ⟨[.int], some .boolean⟩ := by decide +kernel
abbrev own_R2 : Room := { frames := 0, cells := 0, slots := 0, locals := 0 }
def f2_196 (s0 : Int32) : Int32 :=
  (nar .boolean s0)
set_option maxRecDepth 65536 in
set_option maxHeartbeats 4000000 in
theorem w2_196 (K : Cx p l e own_R2 s m meth c Z a0 tables_1 "com/example/homomorphism/homomorphism/XmlChars" "isNameStart" prog_13_method_2_code 1 (some .boolean)) (X : On p l e own_R2 s m args below meth c own_D Z n0 T A cells slots) (i0 : Int32) (s0 : Int32) (hc : cells + 0 ≤ 0) (hs : slots + 0 ≤ 0) :
    Go p e below (T.setTop (mkF m 196 #[.val (.int i0)] [(.int s0)])) (Fini own_D Z n0 s own_R2 (some (.int (f2_196 s0))) A) := by
  unfold f2_196
  exact retB K (by simp) X (show cells ≤ 0 by omega) (show slots ≤ 0 by omega) d2_196
def f2_191  : Int32 :=
  f2_196 (1 : Int32)
set_option maxRecDepth 65536 in
set_option maxHeartbeats 4000000 in
theorem w2_191 (K : Cx p l e own_R2 s m meth c Z a0 tables_1 "com/example/homomorphism/homomorphism/XmlChars" "isNameStart" prog_13_method_2_code 1 (some .boolean)) (X : On p l e own_R2 s m args below meth c own_D Z n0 T A cells slots) (i0 : Int32) (hc : cells + 0 ≤ 0) (hs : slots + 0 ≤ 0) :
    Go p e below (T.setTop (mkF m 191 #[.val (.int i0)] [])) (Fini own_D Z n0 s own_R2 (some (.int (f2_191 ))) A) := by
  unfold f2_191
  refine i_iconst (pc' := 192) (v := (1 : Int32)) K X d2_191 rfl rfl ?_
  refine i_goto (pc' := 196) K X d2_192 (by decide) (by decide) ?_
  exact w2_196 K X i0 (1 : Int32) (show cells + 0 ≤ 0 by omega) (show slots + 0 ≤ 0 by omega)
def f2_195  : Int32 :=
  f2_196 (0 : Int32)
set_option maxRecDepth 65536 in
set_option maxHeartbeats 4000000 in
theorem w2_195 (K : Cx p l e own_R2 s m meth c Z a0 tables_1 "com/example/homomorphism/homomorphism/XmlChars" "isNameStart" prog_13_method_2_code 1 (some .boolean)) (X : On p l e own_R2 s m args below meth c own_D Z n0 T A cells slots) (i0 : Int32) (hc : cells + 0 ≤ 0) (hs : slots + 0 ≤ 0) :
    Go p e below (T.setTop (mkF m 195 #[.val (.int i0)] [])) (Fini own_D Z n0 s own_R2 (some (.int (f2_195 ))) A) := by
  unfold f2_195
  refine i_iconst (pc' := 196) (v := (0 : Int32)) K X d2_195 rfl rfl ?_
  exact w2_196 K X i0 (0 : Int32) (show cells + 0 ≤ 0 by omega) (show slots + 0 ≤ 0 by omega)
def f2_179 (i0 : Int32) : Int32 :=
  if i0 < (65536 : Int32) then (f2_195 )
  else (if (983039 : Int32) < i0 then (f2_195 )
  else (f2_191 ))
set_option maxRecDepth 65536 in
set_option maxHeartbeats 4000000 in
theorem w2_179 (K : Cx p l e own_R2 s m meth c Z a0 tables_1 "com/example/homomorphism/homomorphism/XmlChars" "isNameStart" prog_13_method_2_code 1 (some .boolean)) (X : On p l e own_R2 s m args below meth c own_D Z n0 T A cells slots) (i0 : Int32) (hc : cells + 0 ≤ 0) (hs : slots + 0 ≤ 0) :
    Go p e below (T.setTop (mkF m 179 #[.val (.int i0)] [])) (Fini own_D Z n0 s own_R2 (some (.int (f2_179 i0))) A) := by
  unfold f2_179
  refine i_iloadN (pc' := 180) K X d2_179 rfl rfl ?_
  refine ldcI (pc' := 182) (v := (65536 : Int32)) K X (i := 11) rfl d2_180 rfl ?_
  by_cases hc182 : i0 < (65536 : Int32)
  · rw [if_pos hc182]
    refine i_icmpYes (pc' := 195) K X d2_182 (tlt hc182).1 (by decide) (by decide) ?_
    exact w2_195 K X i0 (show cells + 0 ≤ 0 by omega) (show slots + 0 ≤ 0 by omega)
  · rw [if_neg hc182]
    refine i_icmpNo (pc' := 185) K X d2_182 rfl (flt hc182).1 ?_
    refine i_iloadN (pc' := 186) K X d2_185 rfl rfl ?_
    refine ldcI (pc' := 188) (v := (983039 : Int32)) K X (i := 22) rfl d2_186 rfl ?_
    by_cases hc188 : (983039 : Int32) < i0
    · rw [if_pos hc188]
      refine i_icmpYes (pc' := 195) K X d2_188 (tlt hc188).2.2.1 (by decide) (by decide) ?_
      exact w2_195 K X i0 (show cells + 0 ≤ 0 by omega) (show slots + 0 ≤ 0 by omega)
    · rw [if_neg hc188]
      refine i_icmpNo (pc' := 191) K X d2_188 rfl (flt hc188).2.2.1 ?_
      exact w2_191 K X i0 (show cells + 0 ≤ 0 by omega) (show slots + 0 ≤ 0 by omega)
def f2_167 (i0 : Int32) : Int32 :=
  if i0 < (65008 : Int32) then (f2_179 i0)
  else (if (65533 : Int32) < i0 then (f2_179 i0)
  else (f2_191 ))
set_option maxRecDepth 65536 in
set_option maxHeartbeats 4000000 in
theorem w2_167 (K : Cx p l e own_R2 s m meth c Z a0 tables_1 "com/example/homomorphism/homomorphism/XmlChars" "isNameStart" prog_13_method_2_code 1 (some .boolean)) (X : On p l e own_R2 s m args below meth c own_D Z n0 T A cells slots) (i0 : Int32) (hc : cells + 0 ≤ 0) (hs : slots + 0 ≤ 0) :
    Go p e below (T.setTop (mkF m 167 #[.val (.int i0)] [])) (Fini own_D Z n0 s own_R2 (some (.int (f2_167 i0))) A) := by
  unfold f2_167
  refine i_iloadN (pc' := 168) K X d2_167 rfl rfl ?_
  refine ldcI (pc' := 170) (v := (65008 : Int32)) K X (i := 10) rfl d2_168 rfl ?_
  by_cases hc170 : i0 < (65008 : Int32)
  · rw [if_pos hc170]
    refine i_icmpYes (pc' := 179) K X d2_170 (tlt hc170).1 (by decide) (by decide) ?_
    exact w2_179 K X i0 (show cells + 0 ≤ 0 by omega) (show slots + 0 ≤ 0 by omega)
  · rw [if_neg hc170]
    refine i_icmpNo (pc' := 173) K X d2_170 rfl (flt hc170).1 ?_
    refine i_iloadN (pc' := 174) K X d2_173 rfl rfl ?_
    refine ldcI (pc' := 176) (v := (65533 : Int32)) K X (i := 21) rfl d2_174 rfl ?_
    by_cases hc176 : (65533 : Int32) < i0
    · rw [if_pos hc176]
      refine i_icmpNo (pc' := 179) K X d2_176 rfl (tlt hc176).2.2.2 ?_
      exact w2_179 K X i0 (show cells + 0 ≤ 0 by omega) (show slots + 0 ≤ 0 by omega)
    · rw [if_neg hc176]
      refine i_icmpYes (pc' := 191) K X d2_176 (flt hc176).2.2.2 (by decide) (by decide) ?_
      exact w2_191 K X i0 (show cells + 0 ≤ 0 by omega) (show slots + 0 ≤ 0 by omega)
def f2_155 (i0 : Int32) : Int32 :=
  if i0 < (63744 : Int32) then (f2_167 i0)
  else (if (64975 : Int32) < i0 then (f2_167 i0)
  else (f2_191 ))
set_option maxRecDepth 65536 in
set_option maxHeartbeats 4000000 in
theorem w2_155 (K : Cx p l e own_R2 s m meth c Z a0 tables_1 "com/example/homomorphism/homomorphism/XmlChars" "isNameStart" prog_13_method_2_code 1 (some .boolean)) (X : On p l e own_R2 s m args below meth c own_D Z n0 T A cells slots) (i0 : Int32) (hc : cells + 0 ≤ 0) (hs : slots + 0 ≤ 0) :
    Go p e below (T.setTop (mkF m 155 #[.val (.int i0)] [])) (Fini own_D Z n0 s own_R2 (some (.int (f2_155 i0))) A) := by
  unfold f2_155
  refine i_iloadN (pc' := 156) K X d2_155 rfl rfl ?_
  refine ldcI (pc' := 158) (v := (63744 : Int32)) K X (i := 9) rfl d2_156 rfl ?_
  by_cases hc158 : i0 < (63744 : Int32)
  · rw [if_pos hc158]
    refine i_icmpYes (pc' := 167) K X d2_158 (tlt hc158).1 (by decide) (by decide) ?_
    exact w2_167 K X i0 (show cells + 0 ≤ 0 by omega) (show slots + 0 ≤ 0 by omega)
  · rw [if_neg hc158]
    refine i_icmpNo (pc' := 161) K X d2_158 rfl (flt hc158).1 ?_
    refine i_iloadN (pc' := 162) K X d2_161 rfl rfl ?_
    refine ldcI (pc' := 164) (v := (64975 : Int32)) K X (i := 20) rfl d2_162 rfl ?_
    by_cases hc164 : (64975 : Int32) < i0
    · rw [if_pos hc164]
      refine i_icmpNo (pc' := 167) K X d2_164 rfl (tlt hc164).2.2.2 ?_
      exact w2_167 K X i0 (show cells + 0 ≤ 0 by omega) (show slots + 0 ≤ 0 by omega)
    · rw [if_neg hc164]
      refine i_icmpYes (pc' := 191) K X d2_164 (flt hc164).2.2.2 (by decide) (by decide) ?_
      exact w2_191 K X i0 (show cells + 0 ≤ 0 by omega) (show slots + 0 ≤ 0 by omega)
def f2_142 (i0 : Int32) : Int32 :=
  if i0 < (12289 : Int32) then (f2_155 i0)
  else (if (55295 : Int32) < i0 then (f2_155 i0)
  else (f2_191 ))
set_option maxRecDepth 65536 in
set_option maxHeartbeats 4000000 in
theorem w2_142 (K : Cx p l e own_R2 s m meth c Z a0 tables_1 "com/example/homomorphism/homomorphism/XmlChars" "isNameStart" prog_13_method_2_code 1 (some .boolean)) (X : On p l e own_R2 s m args below meth c own_D Z n0 T A cells slots) (i0 : Int32) (hc : cells + 0 ≤ 0) (hs : slots + 0 ≤ 0) :
    Go p e below (T.setTop (mkF m 142 #[.val (.int i0)] [])) (Fini own_D Z n0 s own_R2 (some (.int (f2_142 i0))) A) := by
  unfold f2_142
  refine i_iloadN (pc' := 143) K X d2_142 rfl rfl ?_
  refine i_sipush (pc' := 146) (v := (12289 : Int32)) K X d2_143 rfl rfl ?_
  by_cases hc146 : i0 < (12289 : Int32)
  · rw [if_pos hc146]
    refine i_icmpYes (pc' := 155) K X d2_146 (tlt hc146).1 (by decide) (by decide) ?_
    exact w2_155 K X i0 (show cells + 0 ≤ 0 by omega) (show slots + 0 ≤ 0 by omega)
  · rw [if_neg hc146]
    refine i_icmpNo (pc' := 149) K X d2_146 rfl (flt hc146).1 ?_
    refine i_iloadN (pc' := 150) K X d2_149 rfl rfl ?_
    refine ldcI (pc' := 152) (v := (55295 : Int32)) K X (i := 19) rfl d2_150 rfl ?_
    by_cases hc152 : (55295 : Int32) < i0
    · rw [if_pos hc152]
      refine i_icmpNo (pc' := 155) K X d2_152 rfl (tlt hc152).2.2.2 ?_
      exact w2_155 K X i0 (show cells + 0 ≤ 0 by omega) (show slots + 0 ≤ 0 by omega)
    · rw [if_neg hc152]
      refine i_icmpYes (pc' := 191) K X d2_152 (flt hc152).2.2.2 (by decide) (by decide) ?_
      exact w2_191 K X i0 (show cells + 0 ≤ 0 by omega) (show slots + 0 ≤ 0 by omega)
def f2_128 (i0 : Int32) : Int32 :=
  if i0 < (11264 : Int32) then (f2_142 i0)
  else (if (12271 : Int32) < i0 then (f2_142 i0)
  else (f2_191 ))
set_option maxRecDepth 65536 in
set_option maxHeartbeats 4000000 in
theorem w2_128 (K : Cx p l e own_R2 s m meth c Z a0 tables_1 "com/example/homomorphism/homomorphism/XmlChars" "isNameStart" prog_13_method_2_code 1 (some .boolean)) (X : On p l e own_R2 s m args below meth c own_D Z n0 T A cells slots) (i0 : Int32) (hc : cells + 0 ≤ 0) (hs : slots + 0 ≤ 0) :
    Go p e below (T.setTop (mkF m 128 #[.val (.int i0)] [])) (Fini own_D Z n0 s own_R2 (some (.int (f2_128 i0))) A) := by
  unfold f2_128
  refine i_iloadN (pc' := 129) K X d2_128 rfl rfl ?_
  refine i_sipush (pc' := 132) (v := (11264 : Int32)) K X d2_129 rfl rfl ?_
  by_cases hc132 : i0 < (11264 : Int32)
  · rw [if_pos hc132]
    refine i_icmpYes (pc' := 142) K X d2_132 (tlt hc132).1 (by decide) (by decide) ?_
    exact w2_142 K X i0 (show cells + 0 ≤ 0 by omega) (show slots + 0 ≤ 0 by omega)
  · rw [if_neg hc132]
    refine i_icmpNo (pc' := 135) K X d2_132 rfl (flt hc132).1 ?_
    refine i_iloadN (pc' := 136) K X d2_135 rfl rfl ?_
    refine i_sipush (pc' := 139) (v := (12271 : Int32)) K X d2_136 rfl rfl ?_
    by_cases hc139 : (12271 : Int32) < i0
    · rw [if_pos hc139]
      refine i_icmpNo (pc' := 142) K X d2_139 rfl (tlt hc139).2.2.2 ?_
      exact w2_142 K X i0 (show cells + 0 ≤ 0 by omega) (show slots + 0 ≤ 0 by omega)
    · rw [if_neg hc139]
      refine i_icmpYes (pc' := 191) K X d2_139 (flt hc139).2.2.2 (by decide) (by decide) ?_
      exact w2_191 K X i0 (show cells + 0 ≤ 0 by omega) (show slots + 0 ≤ 0 by omega)
def f2_114 (i0 : Int32) : Int32 :=
  if i0 < (8304 : Int32) then (f2_128 i0)
  else (if (8591 : Int32) < i0 then (f2_128 i0)
  else (f2_191 ))
set_option maxRecDepth 65536 in
set_option maxHeartbeats 4000000 in
theorem w2_114 (K : Cx p l e own_R2 s m meth c Z a0 tables_1 "com/example/homomorphism/homomorphism/XmlChars" "isNameStart" prog_13_method_2_code 1 (some .boolean)) (X : On p l e own_R2 s m args below meth c own_D Z n0 T A cells slots) (i0 : Int32) (hc : cells + 0 ≤ 0) (hs : slots + 0 ≤ 0) :
    Go p e below (T.setTop (mkF m 114 #[.val (.int i0)] [])) (Fini own_D Z n0 s own_R2 (some (.int (f2_114 i0))) A) := by
  unfold f2_114
  refine i_iloadN (pc' := 115) K X d2_114 rfl rfl ?_
  refine i_sipush (pc' := 118) (v := (8304 : Int32)) K X d2_115 rfl rfl ?_
  by_cases hc118 : i0 < (8304 : Int32)
  · rw [if_pos hc118]
    refine i_icmpYes (pc' := 128) K X d2_118 (tlt hc118).1 (by decide) (by decide) ?_
    exact w2_128 K X i0 (show cells + 0 ≤ 0 by omega) (show slots + 0 ≤ 0 by omega)
  · rw [if_neg hc118]
    refine i_icmpNo (pc' := 121) K X d2_118 rfl (flt hc118).1 ?_
    refine i_iloadN (pc' := 122) K X d2_121 rfl rfl ?_
    refine i_sipush (pc' := 125) (v := (8591 : Int32)) K X d2_122 rfl rfl ?_
    by_cases hc125 : (8591 : Int32) < i0
    · rw [if_pos hc125]
      refine i_icmpNo (pc' := 128) K X d2_125 rfl (tlt hc125).2.2.2 ?_
      exact w2_128 K X i0 (show cells + 0 ≤ 0 by omega) (show slots + 0 ≤ 0 by omega)
    · rw [if_neg hc125]
      refine i_icmpYes (pc' := 191) K X d2_125 (flt hc125).2.2.2 (by decide) (by decide) ?_
      exact w2_191 K X i0 (show cells + 0 ≤ 0 by omega) (show slots + 0 ≤ 0 by omega)
def f2_100 (i0 : Int32) : Int32 :=
  if i0 < (8204 : Int32) then (f2_114 i0)
  else (if (8205 : Int32) < i0 then (f2_114 i0)
  else (f2_191 ))
set_option maxRecDepth 65536 in
set_option maxHeartbeats 4000000 in
theorem w2_100 (K : Cx p l e own_R2 s m meth c Z a0 tables_1 "com/example/homomorphism/homomorphism/XmlChars" "isNameStart" prog_13_method_2_code 1 (some .boolean)) (X : On p l e own_R2 s m args below meth c own_D Z n0 T A cells slots) (i0 : Int32) (hc : cells + 0 ≤ 0) (hs : slots + 0 ≤ 0) :
    Go p e below (T.setTop (mkF m 100 #[.val (.int i0)] [])) (Fini own_D Z n0 s own_R2 (some (.int (f2_100 i0))) A) := by
  unfold f2_100
  refine i_iloadN (pc' := 101) K X d2_100 rfl rfl ?_
  refine i_sipush (pc' := 104) (v := (8204 : Int32)) K X d2_101 rfl rfl ?_
  by_cases hc104 : i0 < (8204 : Int32)
  · rw [if_pos hc104]
    refine i_icmpYes (pc' := 114) K X d2_104 (tlt hc104).1 (by decide) (by decide) ?_
    exact w2_114 K X i0 (show cells + 0 ≤ 0 by omega) (show slots + 0 ≤ 0 by omega)
  · rw [if_neg hc104]
    refine i_icmpNo (pc' := 107) K X d2_104 rfl (flt hc104).1 ?_
    refine i_iloadN (pc' := 108) K X d2_107 rfl rfl ?_
    refine i_sipush (pc' := 111) (v := (8205 : Int32)) K X d2_108 rfl rfl ?_
    by_cases hc111 : (8205 : Int32) < i0
    · rw [if_pos hc111]
      refine i_icmpNo (pc' := 114) K X d2_111 rfl (tlt hc111).2.2.2 ?_
      exact w2_114 K X i0 (show cells + 0 ≤ 0 by omega) (show slots + 0 ≤ 0 by omega)
    · rw [if_neg hc111]
      refine i_icmpYes (pc' := 191) K X d2_111 (flt hc111).2.2.2 (by decide) (by decide) ?_
      exact w2_191 K X i0 (show cells + 0 ≤ 0 by omega) (show slots + 0 ≤ 0 by omega)
def f2_86 (i0 : Int32) : Int32 :=
  if i0 < (895 : Int32) then (f2_100 i0)
  else (if (8191 : Int32) < i0 then (f2_100 i0)
  else (f2_191 ))
set_option maxRecDepth 65536 in
set_option maxHeartbeats 4000000 in
theorem w2_86 (K : Cx p l e own_R2 s m meth c Z a0 tables_1 "com/example/homomorphism/homomorphism/XmlChars" "isNameStart" prog_13_method_2_code 1 (some .boolean)) (X : On p l e own_R2 s m args below meth c own_D Z n0 T A cells slots) (i0 : Int32) (hc : cells + 0 ≤ 0) (hs : slots + 0 ≤ 0) :
    Go p e below (T.setTop (mkF m 86 #[.val (.int i0)] [])) (Fini own_D Z n0 s own_R2 (some (.int (f2_86 i0))) A) := by
  unfold f2_86
  refine i_iloadN (pc' := 87) K X d2_86 rfl rfl ?_
  refine i_sipush (pc' := 90) (v := (895 : Int32)) K X d2_87 rfl rfl ?_
  by_cases hc90 : i0 < (895 : Int32)
  · rw [if_pos hc90]
    refine i_icmpYes (pc' := 100) K X d2_90 (tlt hc90).1 (by decide) (by decide) ?_
    exact w2_100 K X i0 (show cells + 0 ≤ 0 by omega) (show slots + 0 ≤ 0 by omega)
  · rw [if_neg hc90]
    refine i_icmpNo (pc' := 93) K X d2_90 rfl (flt hc90).1 ?_
    refine i_iloadN (pc' := 94) K X d2_93 rfl rfl ?_
    refine i_sipush (pc' := 97) (v := (8191 : Int32)) K X d2_94 rfl rfl ?_
    by_cases hc97 : (8191 : Int32) < i0
    · rw [if_pos hc97]
      refine i_icmpNo (pc' := 100) K X d2_97 rfl (tlt hc97).2.2.2 ?_
      exact w2_100 K X i0 (show cells + 0 ≤ 0 by omega) (show slots + 0 ≤ 0 by omega)
    · rw [if_neg hc97]
      refine i_icmpYes (pc' := 191) K X d2_97 (flt hc97).2.2.2 (by decide) (by decide) ?_
      exact w2_191 K X i0 (show cells + 0 ≤ 0 by omega) (show slots + 0 ≤ 0 by omega)
def f2_72 (i0 : Int32) : Int32 :=
  if i0 < (880 : Int32) then (f2_86 i0)
  else (if (893 : Int32) < i0 then (f2_86 i0)
  else (f2_191 ))
set_option maxRecDepth 65536 in
set_option maxHeartbeats 4000000 in
theorem w2_72 (K : Cx p l e own_R2 s m meth c Z a0 tables_1 "com/example/homomorphism/homomorphism/XmlChars" "isNameStart" prog_13_method_2_code 1 (some .boolean)) (X : On p l e own_R2 s m args below meth c own_D Z n0 T A cells slots) (i0 : Int32) (hc : cells + 0 ≤ 0) (hs : slots + 0 ≤ 0) :
    Go p e below (T.setTop (mkF m 72 #[.val (.int i0)] [])) (Fini own_D Z n0 s own_R2 (some (.int (f2_72 i0))) A) := by
  unfold f2_72
  refine i_iloadN (pc' := 73) K X d2_72 rfl rfl ?_
  refine i_sipush (pc' := 76) (v := (880 : Int32)) K X d2_73 rfl rfl ?_
  by_cases hc76 : i0 < (880 : Int32)
  · rw [if_pos hc76]
    refine i_icmpYes (pc' := 86) K X d2_76 (tlt hc76).1 (by decide) (by decide) ?_
    exact w2_86 K X i0 (show cells + 0 ≤ 0 by omega) (show slots + 0 ≤ 0 by omega)
  · rw [if_neg hc76]
    refine i_icmpNo (pc' := 79) K X d2_76 rfl (flt hc76).1 ?_
    refine i_iloadN (pc' := 80) K X d2_79 rfl rfl ?_
    refine i_sipush (pc' := 83) (v := (893 : Int32)) K X d2_80 rfl rfl ?_
    by_cases hc83 : (893 : Int32) < i0
    · rw [if_pos hc83]
      refine i_icmpNo (pc' := 86) K X d2_83 rfl (tlt hc83).2.2.2 ?_
      exact w2_86 K X i0 (show cells + 0 ≤ 0 by omega) (show slots + 0 ≤ 0 by omega)
    · rw [if_neg hc83]
      refine i_icmpYes (pc' := 191) K X d2_83 (flt hc83).2.2.2 (by decide) (by decide) ?_
      exact w2_191 K X i0 (show cells + 0 ≤ 0 by omega) (show slots + 0 ≤ 0 by omega)
def f2_58 (i0 : Int32) : Int32 :=
  if i0 < (248 : Int32) then (f2_72 i0)
  else (if (767 : Int32) < i0 then (f2_72 i0)
  else (f2_191 ))
set_option maxRecDepth 65536 in
set_option maxHeartbeats 4000000 in
theorem w2_58 (K : Cx p l e own_R2 s m meth c Z a0 tables_1 "com/example/homomorphism/homomorphism/XmlChars" "isNameStart" prog_13_method_2_code 1 (some .boolean)) (X : On p l e own_R2 s m args below meth c own_D Z n0 T A cells slots) (i0 : Int32) (hc : cells + 0 ≤ 0) (hs : slots + 0 ≤ 0) :
    Go p e below (T.setTop (mkF m 58 #[.val (.int i0)] [])) (Fini own_D Z n0 s own_R2 (some (.int (f2_58 i0))) A) := by
  unfold f2_58
  refine i_iloadN (pc' := 59) K X d2_58 rfl rfl ?_
  refine i_sipush (pc' := 62) (v := (248 : Int32)) K X d2_59 rfl rfl ?_
  by_cases hc62 : i0 < (248 : Int32)
  · rw [if_pos hc62]
    refine i_icmpYes (pc' := 72) K X d2_62 (tlt hc62).1 (by decide) (by decide) ?_
    exact w2_72 K X i0 (show cells + 0 ≤ 0 by omega) (show slots + 0 ≤ 0 by omega)
  · rw [if_neg hc62]
    refine i_icmpNo (pc' := 65) K X d2_62 rfl (flt hc62).1 ?_
    refine i_iloadN (pc' := 66) K X d2_65 rfl rfl ?_
    refine i_sipush (pc' := 69) (v := (767 : Int32)) K X d2_66 rfl rfl ?_
    by_cases hc69 : (767 : Int32) < i0
    · rw [if_pos hc69]
      refine i_icmpNo (pc' := 72) K X d2_69 rfl (tlt hc69).2.2.2 ?_
      exact w2_72 K X i0 (show cells + 0 ≤ 0 by omega) (show slots + 0 ≤ 0 by omega)
    · rw [if_neg hc69]
      refine i_icmpYes (pc' := 191) K X d2_69 (flt hc69).2.2.2 (by decide) (by decide) ?_
      exact w2_191 K X i0 (show cells + 0 ≤ 0 by omega) (show slots + 0 ≤ 0 by omega)
def f2_44 (i0 : Int32) : Int32 :=
  if i0 < (216 : Int32) then (f2_58 i0)
  else (if (246 : Int32) < i0 then (f2_58 i0)
  else (f2_191 ))
set_option maxRecDepth 65536 in
set_option maxHeartbeats 4000000 in
theorem w2_44 (K : Cx p l e own_R2 s m meth c Z a0 tables_1 "com/example/homomorphism/homomorphism/XmlChars" "isNameStart" prog_13_method_2_code 1 (some .boolean)) (X : On p l e own_R2 s m args below meth c own_D Z n0 T A cells slots) (i0 : Int32) (hc : cells + 0 ≤ 0) (hs : slots + 0 ≤ 0) :
    Go p e below (T.setTop (mkF m 44 #[.val (.int i0)] [])) (Fini own_D Z n0 s own_R2 (some (.int (f2_44 i0))) A) := by
  unfold f2_44
  refine i_iloadN (pc' := 45) K X d2_44 rfl rfl ?_
  refine i_sipush (pc' := 48) (v := (216 : Int32)) K X d2_45 rfl rfl ?_
  by_cases hc48 : i0 < (216 : Int32)
  · rw [if_pos hc48]
    refine i_icmpYes (pc' := 58) K X d2_48 (tlt hc48).1 (by decide) (by decide) ?_
    exact w2_58 K X i0 (show cells + 0 ≤ 0 by omega) (show slots + 0 ≤ 0 by omega)
  · rw [if_neg hc48]
    refine i_icmpNo (pc' := 51) K X d2_48 rfl (flt hc48).1 ?_
    refine i_iloadN (pc' := 52) K X d2_51 rfl rfl ?_
    refine i_sipush (pc' := 55) (v := (246 : Int32)) K X d2_52 rfl rfl ?_
    by_cases hc55 : (246 : Int32) < i0
    · rw [if_pos hc55]
      refine i_icmpNo (pc' := 58) K X d2_55 rfl (tlt hc55).2.2.2 ?_
      exact w2_58 K X i0 (show cells + 0 ≤ 0 by omega) (show slots + 0 ≤ 0 by omega)
    · rw [if_neg hc55]
      refine i_icmpYes (pc' := 191) K X d2_55 (flt hc55).2.2.2 (by decide) (by decide) ?_
      exact w2_191 K X i0 (show cells + 0 ≤ 0 by omega) (show slots + 0 ≤ 0 by omega)
def f2_30 (i0 : Int32) : Int32 :=
  if i0 < (192 : Int32) then (f2_44 i0)
  else (if (214 : Int32) < i0 then (f2_44 i0)
  else (f2_191 ))
set_option maxRecDepth 65536 in
set_option maxHeartbeats 4000000 in
theorem w2_30 (K : Cx p l e own_R2 s m meth c Z a0 tables_1 "com/example/homomorphism/homomorphism/XmlChars" "isNameStart" prog_13_method_2_code 1 (some .boolean)) (X : On p l e own_R2 s m args below meth c own_D Z n0 T A cells slots) (i0 : Int32) (hc : cells + 0 ≤ 0) (hs : slots + 0 ≤ 0) :
    Go p e below (T.setTop (mkF m 30 #[.val (.int i0)] [])) (Fini own_D Z n0 s own_R2 (some (.int (f2_30 i0))) A) := by
  unfold f2_30
  refine i_iloadN (pc' := 31) K X d2_30 rfl rfl ?_
  refine i_sipush (pc' := 34) (v := (192 : Int32)) K X d2_31 rfl rfl ?_
  by_cases hc34 : i0 < (192 : Int32)
  · rw [if_pos hc34]
    refine i_icmpYes (pc' := 44) K X d2_34 (tlt hc34).1 (by decide) (by decide) ?_
    exact w2_44 K X i0 (show cells + 0 ≤ 0 by omega) (show slots + 0 ≤ 0 by omega)
  · rw [if_neg hc34]
    refine i_icmpNo (pc' := 37) K X d2_34 rfl (flt hc34).1 ?_
    refine i_iloadN (pc' := 38) K X d2_37 rfl rfl ?_
    refine i_sipush (pc' := 41) (v := (214 : Int32)) K X d2_38 rfl rfl ?_
    by_cases hc41 : (214 : Int32) < i0
    · rw [if_pos hc41]
      refine i_icmpNo (pc' := 44) K X d2_41 rfl (tlt hc41).2.2.2 ?_
      exact w2_44 K X i0 (show cells + 0 ≤ 0 by omega) (show slots + 0 ≤ 0 by omega)
    · rw [if_neg hc41]
      refine i_icmpYes (pc' := 191) K X d2_41 (flt hc41).2.2.2 (by decide) (by decide) ?_
      exact w2_191 K X i0 (show cells + 0 ≤ 0 by omega) (show slots + 0 ≤ 0 by omega)
def f2_12 (i0 : Int32) : Int32 :=
  if i0 = (95 : Int32) then (f2_191 )
  else (if i0 < (97 : Int32) then (f2_30 i0)
  else (if (122 : Int32) < i0 then (f2_30 i0)
  else (f2_191 )))
set_option maxRecDepth 65536 in
set_option maxHeartbeats 4000000 in
theorem w2_12 (K : Cx p l e own_R2 s m meth c Z a0 tables_1 "com/example/homomorphism/homomorphism/XmlChars" "isNameStart" prog_13_method_2_code 1 (some .boolean)) (X : On p l e own_R2 s m args below meth c own_D Z n0 T A cells slots) (i0 : Int32) (hc : cells + 0 ≤ 0) (hs : slots + 0 ≤ 0) :
    Go p e below (T.setTop (mkF m 12 #[.val (.int i0)] [])) (Fini own_D Z n0 s own_R2 (some (.int (f2_12 i0))) A) := by
  unfold f2_12
  refine i_iloadN (pc' := 13) K X d2_12 rfl rfl ?_
  refine i_bipush (pc' := 15) (v := (95 : Int32)) K X d2_13 rfl rfl ?_
  by_cases hc15 : i0 = (95 : Int32)
  · rw [if_pos hc15]
    refine i_icmpYes (pc' := 191) K X d2_15 (teq hc15).1 (by decide) (by decide) ?_
    exact w2_191 K X i0 (show cells + 0 ≤ 0 by omega) (show slots + 0 ≤ 0 by omega)
  · rw [if_neg hc15]
    refine i_icmpNo (pc' := 18) K X d2_15 rfl (feq hc15).1 ?_
    refine i_iloadN (pc' := 19) K X d2_18 rfl rfl ?_
    refine i_bipush (pc' := 21) (v := (97 : Int32)) K X d2_19 rfl rfl ?_
    by_cases hc21 : i0 < (97 : Int32)
    · rw [if_pos hc21]
      refine i_icmpYes (pc' := 30) K X d2_21 (tlt hc21).1 (by decide) (by decide) ?_
      exact w2_30 K X i0 (show cells + 0 ≤ 0 by omega) (show slots + 0 ≤ 0 by omega)
    · rw [if_neg hc21]
      refine i_icmpNo (pc' := 24) K X d2_21 rfl (flt hc21).1 ?_
      refine i_iloadN (pc' := 25) K X d2_24 rfl rfl ?_
      refine i_bipush (pc' := 27) (v := (122 : Int32)) K X d2_25 rfl rfl ?_
      by_cases hc27 : (122 : Int32) < i0
      · rw [if_pos hc27]
        refine i_icmpNo (pc' := 30) K X d2_27 rfl (tlt hc27).2.2.2 ?_
        exact w2_30 K X i0 (show cells + 0 ≤ 0 by omega) (show slots + 0 ≤ 0 by omega)
      · rw [if_neg hc27]
        refine i_icmpYes (pc' := 191) K X d2_27 (flt hc27).2.2.2 (by decide) (by decide) ?_
        exact w2_191 K X i0 (show cells + 0 ≤ 0 by omega) (show slots + 0 ≤ 0 by omega)
def f2_0 (i0 : Int32) : Int32 :=
  if i0 < (65 : Int32) then (f2_12 i0)
  else (if (90 : Int32) < i0 then (f2_12 i0)
  else (f2_191 ))
set_option maxRecDepth 65536 in
set_option maxHeartbeats 4000000 in
theorem w2_0 (K : Cx p l e own_R2 s m meth c Z a0 tables_1 "com/example/homomorphism/homomorphism/XmlChars" "isNameStart" prog_13_method_2_code 1 (some .boolean)) (X : On p l e own_R2 s m args below meth c own_D Z n0 T A cells slots) (i0 : Int32) (hc : cells + 0 ≤ 0) (hs : slots + 0 ≤ 0) :
    Go p e below (T.setTop (mkF m 0 #[.val (.int i0)] [])) (Fini own_D Z n0 s own_R2 (some (.int (f2_0 i0))) A) := by
  unfold f2_0
  refine i_iloadN (pc' := 1) K X d2_0 rfl rfl ?_
  refine i_bipush (pc' := 3) (v := (65 : Int32)) K X d2_1 rfl rfl ?_
  by_cases hc3 : i0 < (65 : Int32)
  · rw [if_pos hc3]
    refine i_icmpYes (pc' := 12) K X d2_3 (tlt hc3).1 (by decide) (by decide) ?_
    exact w2_12 K X i0 (show cells + 0 ≤ 0 by omega) (show slots + 0 ≤ 0 by omega)
  · rw [if_neg hc3]
    refine i_icmpNo (pc' := 6) K X d2_3 rfl (flt hc3).1 ?_
    refine i_iloadN (pc' := 7) K X d2_6 rfl rfl ?_
    refine i_bipush (pc' := 9) (v := (90 : Int32)) K X d2_7 rfl rfl ?_
    by_cases hc9 : (90 : Int32) < i0
    · rw [if_pos hc9]
      refine i_icmpNo (pc' := 12) K X d2_9 rfl (tlt hc9).2.2.2 ?_
      exact w2_12 K X i0 (show cells + 0 ≤ 0 by omega) (show slots + 0 ≤ 0 by omega)
    · rw [if_neg hc9]
      refine i_icmpYes (pc' := 191) K X d2_9 (flt hc9).2.2.2 (by decide) (by decide) ?_
      exact w2_191 K X i0 (show cells + 0 ≤ 0 by omega) (show slots + 0 ≤ 0 by omega)
theorem pn_2 : plainName "com/example/homomorphism/homomorphism/XmlChars" = true := by first | (simp [plainName, overriddenIn]; done) | decide +kernel
theorem rm2 {l : Launch} {Z : State} {a0 : Array Value} {n0 : Nat} (hw : ∀ d ∈ tables_1, d.before a0 Z = true) (A : AH) (i0 : Int32) :
    Met l own_D Z n0 (⟨"com/example/homomorphism/homomorphism/XmlChars", "isNameStart", "(I)Z"⟩ : MethodName) prog_13_method_2_code 1 (some .boolean) own_R2 [(.int i0)] A (some (.int (f2_0 i0))) A :=
  met (W := tables_1) (a0 := a0) (own := "com/example/homomorphism/homomorphism/XmlChars") (nm := "isNameStart") (L0 := #[.val (.int i0)]) (plainFor_of_name pn_2) hw rfl rfl (fun m => by first | (simp [entryFrame, mkF, argsToLocals, Value.category]; done) | rfl) (fun p e s m below meth c T K X => w2_0 K X i0 (show 0 + 0 ≤ 0 by decide) (show 0 + 0 ≤ 0 by decide))
/-! body 3: XmlCharsIsNameStartPinLaw.excluded(I)Z -/
theorem d3_0 : decode method_2_code 0 = .ok (.iload_n 0, 1) := by decide +kernel
theorem d3_1 : decode method_2_code 1 = .ok (.bipush 65, 2) := by decide +kernel
theorem d3_3 : decode method_2_code 3 = .ok (.if_icmp .lt 9, 3) := by decide +kernel
theorem d3_6 : decode method_2_code 6 = .ok (.iload_n 0, 1) := by decide +kernel
theorem d3_7 : decode method_2_code 7 = .ok (.ldc 7, 2) := by decide +kernel
theorem d3_9 : decode method_2_code 9 = .ok (.if_icmp .le 5, 3) := by decide +kernel
theorem d3_12 : decode method_2_code 12 = .ok (.iconst 1, 1) := by decide +kernel
theorem d3_13 : decode method_2_code 13 = .ok (.ireturn, 1) := by decide +kernel
theorem d3_14 : decode method_2_code 14 = .ok (.iload_n 0, 1) := by decide +kernel
theorem d3_15 : decode method_2_code 15 = .ok (.bipush 91, 2) := by decide +kernel
theorem d3_17 : decode method_2_code 17 = .ok (.if_icmp .lt 11, 3) := by decide +kernel
theorem d3_20 : decode method_2_code 20 = .ok (.iload_n 0, 1) := by decide +kernel
theorem d3_21 : decode method_2_code 21 = .ok (.bipush 94, 2) := by decide +kernel
theorem d3_23 : decode method_2_code 23 = .ok (.if_icmp .gt 5, 3) := by decide +kernel
theorem d3_26 : decode method_2_code 26 = .ok (.iconst 1, 1) := by decide +kernel
theorem d3_27 : decode method_2_code 27 = .ok (.ireturn, 1) := by decide +kernel
theorem d3_28 : decode method_2_code 28 = .ok (.iload_n 0, 1) := by decide +kernel
theorem d3_29 : decode method_2_code 29 = .ok (.bipush 96, 2) := by decide +kernel
theorem d3_31 : decode method_2_code 31 = .ok (.if_icmp .ne 5, 3) := by decide +kernel
theorem d3_34 : decode method_2_code 34 = .ok (.iconst 1, 1) := by decide +kernel
theorem d3_35 : decode method_2_code 35 = .ok (.ireturn, 1) := by decide +kernel
theorem d3_36 : decode method_2_code 36 = .ok (.iload_n 0, 1) := by decide +kernel
theorem d3_37 : decode method_2_code 37 = .ok (.bipush 123, 2) := by decide +kernel
theorem d3_39 : decode method_2_code 39 = .ok (.if_icmp .lt 12, 3) := by decide +kernel
theorem d3_42 : decode method_2_code 42 = .ok (.iload_n 0, 1) := by decide +kernel
theorem d3_43 : decode method_2_code 43 = .ok (.sipush 191, 3) := by decide +kernel
theorem d3_46 : decode method_2_code 46 = .ok (.if_icmp .gt 5, 3) := by decide +kernel
theorem d3_49 : decode method_2_code 49 = .ok (.iconst 1, 1) := by decide +kernel
theorem d3_50 : decode method_2_code 50 = .ok (.ireturn, 1) := by decide +kernel
theorem d3_51 : decode method_2_code 51 = .ok (.iload_n 0, 1) := by decide +kernel
theorem d3_52 : decode method_2_code 52 = .ok (.sipush 215, 3) := by decide +kernel
theorem d3_55 : decode method_2_code 55 = .ok (.if_icmp .eq 10, 3) := by decide +kernel
theorem d3_58 : decode method_2_code 58 = .ok (.iload_n 0, 1) := by decide +kernel
theorem d3_59 : decode method_2_code 59 = .ok (.sipush 247, 3) := by decide +kernel
theorem d3_62 : decode method_2_code 62 = .ok (.if_icmp .ne 5, 3) := by decide +kernel
theorem d3_65 : decode method_2_code 65 = .ok (.iconst 1, 1) := by decide +kernel
theorem d3_66 : decode method_2_code 66 = .ok (.ireturn, 1) := by decide +kernel
theorem d3_67 : decode method_2_code 67 = .ok (.iload_n 0, 1) := by decide +kernel
theorem d3_68 : decode method_2_code 68 = .ok (.sipush 768, 3) := by decide +kernel
theorem d3_71 : decode method_2_code 71 = .ok (.if_icmp .lt 12, 3) := by decide +kernel
theorem d3_74 : decode method_2_code 74 = .ok (.iload_n 0, 1) := by decide +kernel
theorem d3_75 : decode method_2_code 75 = .ok (.sipush 879, 3) := by decide +kernel
theorem d3_78 : decode method_2_code 78 = .ok (.if_icmp .gt 5, 3) := by decide +kernel
theorem d3_81 : decode method_2_code 81 = .ok (.iconst 1, 1) := by decide +kernel
theorem d3_82 : decode method_2_code 82 = .ok (.ireturn, 1) := by decide +kernel
theorem d3_83 : decode method_2_code 83 = .ok (.iload_n 0, 1) := by decide +kernel
theorem d3_84 : decode method_2_code 84 = .ok (.sipush 894, 3) := by decide +kernel
theorem d3_87 : decode method_2_code 87 = .ok (.if_icmp .ne 5, 3) := by decide +kernel
theorem d3_90 : decode method_2_code 90 = .ok (.iconst 1, 1) := by decide +kernel
theorem d3_91 : decode method_2_code 91 = .ok (.ireturn, 1) := by decide +kernel
theorem d3_92 : decode method_2_code 92 = .ok (.iload_n 0, 1) := by decide +kernel
theorem d3_93 : decode method_2_code 93 = .ok (.sipush 8192, 3) := by decide +kernel
theorem d3_96 : decode method_2_code 96 = .ok (.if_icmp .lt 12, 3) := by decide +kernel
theorem d3_99 : decode method_2_code 99 = .ok (.iload_n 0, 1) := by decide +kernel
theorem d3_100 : decode method_2_code 100 = .ok (.sipush 8203, 3) := by decide +kernel
theorem d3_103 : decode method_2_code 103 = .ok (.if_icmp .gt 5, 3) := by decide +kernel
theorem d3_106 : decode method_2_code 106 = .ok (.iconst 1, 1) := by decide +kernel
theorem d3_107 : decode method_2_code 107 = .ok (.ireturn, 1) := by decide +kernel
theorem d3_108 : decode method_2_code 108 = .ok (.iload_n 0, 1) := by decide +kernel
theorem d3_109 : decode method_2_code 109 = .ok (.sipush 8206, 3) := by decide +kernel
theorem d3_112 : decode method_2_code 112 = .ok (.if_icmp .lt 12, 3) := by decide +kernel
theorem d3_115 : decode method_2_code 115 = .ok (.iload_n 0, 1) := by decide +kernel
theorem d3_116 : decode method_2_code 116 = .ok (.sipush 8303, 3) := by decide +kernel
theorem d3_119 : decode method_2_code 119 = .ok (.if_icmp .gt 5, 3) := by decide +kernel
theorem d3_122 : decode method_2_code 122 = .ok (.iconst 1, 1) := by decide +kernel
theorem d3_123 : decode method_2_code 123 = .ok (.ireturn, 1) := by decide +kernel
theorem d3_124 : decode method_2_code 124 = .ok (.iload_n 0, 1) := by decide +kernel
theorem d3_125 : decode method_2_code 125 = .ok (.sipush 8592, 3) := by decide +kernel
theorem d3_128 : decode method_2_code 128 = .ok (.if_icmp .lt 12, 3) := by decide +kernel
theorem d3_131 : decode method_2_code 131 = .ok (.iload_n 0, 1) := by decide +kernel
theorem d3_132 : decode method_2_code 132 = .ok (.sipush 11263, 3) := by decide +kernel
theorem d3_135 : decode method_2_code 135 = .ok (.if_icmp .gt 5, 3) := by decide +kernel
theorem d3_138 : decode method_2_code 138 = .ok (.iconst 1, 1) := by decide +kernel
theorem d3_139 : decode method_2_code 139 = .ok (.ireturn, 1) := by decide +kernel
theorem d3_140 : decode method_2_code 140 = .ok (.iload_n 0, 1) := by decide +kernel
theorem d3_141 : decode method_2_code 141 = .ok (.sipush 12272, 3) := by decide +kernel
theorem d3_144 : decode method_2_code 144 = .ok (.if_icmp .lt 12, 3) := by decide +kernel
theorem d3_147 : decode method_2_code 147 = .ok (.iload_n 0, 1) := by decide +kernel
theorem d3_148 : decode method_2_code 148 = .ok (.sipush 12288, 3) := by decide +kernel
theorem d3_151 : decode method_2_code 151 = .ok (.if_icmp .gt 5, 3) := by decide +kernel
theorem d3_154 : decode method_2_code 154 = .ok (.iconst 1, 1) := by decide +kernel
theorem d3_155 : decode method_2_code 155 = .ok (.ireturn, 1) := by decide +kernel
theorem d3_156 : decode method_2_code 156 = .ok (.iload_n 0, 1) := by decide +kernel
theorem d3_157 : decode method_2_code 157 = .ok (.ldc 8, 2) := by decide +kernel
theorem d3_159 : decode method_2_code 159 = .ok (.if_icmp .lt 11, 3) := by decide +kernel
theorem d3_162 : decode method_2_code 162 = .ok (.iload_n 0, 1) := by decide +kernel
theorem d3_163 : decode method_2_code 163 = .ok (.ldc 9, 2) := by decide +kernel
theorem d3_165 : decode method_2_code 165 = .ok (.if_icmp .gt 5, 3) := by decide +kernel
theorem d3_168 : decode method_2_code 168 = .ok (.iconst 1, 1) := by decide +kernel
theorem d3_169 : decode method_2_code 169 = .ok (.ireturn, 1) := by decide +kernel
theorem d3_170 : decode method_2_code 170 = .ok (.iload_n 0, 1) := by decide +kernel
theorem d3_171 : decode method_2_code 171 = .ok (.ldc 10, 2) := by decide +kernel
theorem d3_173 : decode method_2_code 173 = .ok (.if_icmp .lt 11, 3) := by decide +kernel
theorem d3_176 : decode method_2_code 176 = .ok (.iload_n 0, 1) := by decide +kernel
theorem d3_177 : decode method_2_code 177 = .ok (.ldc 11, 2) := by decide +kernel
theorem d3_179 : decode method_2_code 179 = .ok (.if_icmp .gt 5, 3) := by decide +kernel
theorem d3_182 : decode method_2_code 182 = .ok (.iconst 1, 1) := by decide +kernel
theorem d3_183 : decode method_2_code 183 = .ok (.ireturn, 1) := by decide +kernel
theorem d3_184 : decode method_2_code 184 = .ok (.iload_n 0, 1) := by decide +kernel
theorem d3_185 : decode method_2_code 185 = .ok (.ldc 12, 2) := by decide +kernel
theorem d3_187 : decode method_2_code 187 = .ok (.if_icmp .lt 11, 3) := by decide +kernel
theorem d3_190 : decode method_2_code 190 = .ok (.iload_n 0, 1) := by decide +kernel
theorem d3_191 : decode method_2_code 191 = .ok (.ldc 13, 2) := by decide +kernel
theorem d3_193 : decode method_2_code 193 = .ok (.if_icmp .gt 5, 3) := by decide +kernel
theorem d3_196 : decode method_2_code 196 = .ok (.iconst 1, 1) := by decide +kernel
theorem d3_197 : decode method_2_code 197 = .ok (.ireturn, 1) := by decide +kernel
theorem d3_198 : decode method_2_code 198 = .ok (.iconst 0, 1) := by decide +kernel
theorem d3_199 : decode method_2_code 199 = .ok (.ireturn, 1) := by decide +kernel
theorem pd_3 : parseMethodDescriptor "(I)Z" = some ⟨[.int], some .boolean⟩ := by decide +kernel
abbrev own_R3 : Room := { frames := 0, cells := 0, slots := 0, locals := 0 }
def f3_12  : Int32 :=
  (nar .boolean (1 : Int32))
set_option maxRecDepth 65536 in
set_option maxHeartbeats 4000000 in
theorem w3_12 (K : Cx p l e own_R3 s m meth c Z a0 tables_1 "com/example/homomorphism/homomorphism/XmlCharsIsNameStartPinLaw" "excluded" method_2_code 1 (some .boolean)) (X : On p l e own_R3 s m args below meth c own_D Z n0 T A cells slots) (i0 : Int32) (hc : cells + 0 ≤ 0) (hs : slots + 0 ≤ 0) :
    Go p e below (T.setTop (mkF m 12 #[.val (.int i0)] [])) (Fini own_D Z n0 s own_R3 (some (.int (f3_12 ))) A) := by
  unfold f3_12
  refine i_iconst (pc' := 13) (v := (1 : Int32)) K X d3_12 rfl rfl ?_
  exact retB K (by simp) X (show cells ≤ 0 by omega) (show slots ≤ 0 by omega) d3_13
def f3_65  : Int32 :=
  (nar .boolean (1 : Int32))
set_option maxRecDepth 65536 in
set_option maxHeartbeats 4000000 in
theorem w3_65 (K : Cx p l e own_R3 s m meth c Z a0 tables_1 "com/example/homomorphism/homomorphism/XmlCharsIsNameStartPinLaw" "excluded" method_2_code 1 (some .boolean)) (X : On p l e own_R3 s m args below meth c own_D Z n0 T A cells slots) (i0 : Int32) (hc : cells + 0 ≤ 0) (hs : slots + 0 ≤ 0) :
    Go p e below (T.setTop (mkF m 65 #[.val (.int i0)] [])) (Fini own_D Z n0 s own_R3 (some (.int (f3_65 ))) A) := by
  unfold f3_65
  refine i_iconst (pc' := 66) (v := (1 : Int32)) K X d3_65 rfl rfl ?_
  exact retB K (by simp) X (show cells ≤ 0 by omega) (show slots ≤ 0 by omega) d3_66
def f3_198  : Int32 :=
  (nar .boolean (0 : Int32))
set_option maxRecDepth 65536 in
set_option maxHeartbeats 4000000 in
theorem w3_198 (K : Cx p l e own_R3 s m meth c Z a0 tables_1 "com/example/homomorphism/homomorphism/XmlCharsIsNameStartPinLaw" "excluded" method_2_code 1 (some .boolean)) (X : On p l e own_R3 s m args below meth c own_D Z n0 T A cells slots) (i0 : Int32) (hc : cells + 0 ≤ 0) (hs : slots + 0 ≤ 0) :
    Go p e below (T.setTop (mkF m 198 #[.val (.int i0)] [])) (Fini own_D Z n0 s own_R3 (some (.int (f3_198 ))) A) := by
  unfold f3_198
  refine i_iconst (pc' := 199) (v := (0 : Int32)) K X d3_198 rfl rfl ?_
  exact retB K (by simp) X (show cells ≤ 0 by omega) (show slots ≤ 0 by omega) d3_199
def f3_184 (i0 : Int32) : Int32 :=
  if i0 < (65534 : Int32) then (f3_198 )
  else (if (65535 : Int32) < i0 then (f3_198 )
  else ((nar .boolean (1 : Int32))))
set_option maxRecDepth 65536 in
set_option maxHeartbeats 4000000 in
theorem w3_184 (K : Cx p l e own_R3 s m meth c Z a0 tables_1 "com/example/homomorphism/homomorphism/XmlCharsIsNameStartPinLaw" "excluded" method_2_code 1 (some .boolean)) (X : On p l e own_R3 s m args below meth c own_D Z n0 T A cells slots) (i0 : Int32) (hc : cells + 0 ≤ 0) (hs : slots + 0 ≤ 0) :
    Go p e below (T.setTop (mkF m 184 #[.val (.int i0)] [])) (Fini own_D Z n0 s own_R3 (some (.int (f3_184 i0))) A) := by
  unfold f3_184
  refine i_iloadN (pc' := 185) K X d3_184 rfl rfl ?_
  refine ldcI (pc' := 187) (v := (65534 : Int32)) K X (i := 18) rfl d3_185 rfl ?_
  by_cases hc187 : i0 < (65534 : Int32)
  · rw [if_pos hc187]
    refine i_icmpYes (pc' := 198) K X d3_187 (tlt hc187).1 (by decide) (by decide) ?_
    exact w3_198 K X i0 (show cells + 0 ≤ 0 by omega) (show slots + 0 ≤ 0 by omega)
  · rw [if_neg hc187]
    refine i_icmpNo (pc' := 190) K X d3_187 rfl (flt hc187).1 ?_
    refine i_iloadN (pc' := 191) K X d3_190 rfl rfl ?_
    refine ldcI (pc' := 193) (v := (65535 : Int32)) K X (i := 25) rfl d3_191 rfl ?_
    by_cases hc193 : (65535 : Int32) < i0
    · rw [if_pos hc193]
      refine i_icmpYes (pc' := 198) K X d3_193 (tlt hc193).2.2.1 (by decide) (by decide) ?_
      exact w3_198 K X i0 (show cells + 0 ≤ 0 by omega) (show slots + 0 ≤ 0 by omega)
    · rw [if_neg hc193]
      refine i_icmpNo (pc' := 196) K X d3_193 rfl (flt hc193).2.2.1 ?_
      refine i_iconst (pc' := 197) (v := (1 : Int32)) K X d3_196 rfl rfl ?_
      exact retB K (by simp) X (show cells ≤ 0 by omega) (show slots ≤ 0 by omega) d3_197
def f3_170 (i0 : Int32) : Int32 :=
  if i0 < (64976 : Int32) then (f3_184 i0)
  else (if (65007 : Int32) < i0 then (f3_184 i0)
  else ((nar .boolean (1 : Int32))))
set_option maxRecDepth 65536 in
set_option maxHeartbeats 4000000 in
theorem w3_170 (K : Cx p l e own_R3 s m meth c Z a0 tables_1 "com/example/homomorphism/homomorphism/XmlCharsIsNameStartPinLaw" "excluded" method_2_code 1 (some .boolean)) (X : On p l e own_R3 s m args below meth c own_D Z n0 T A cells slots) (i0 : Int32) (hc : cells + 0 ≤ 0) (hs : slots + 0 ≤ 0) :
    Go p e below (T.setTop (mkF m 170 #[.val (.int i0)] [])) (Fini own_D Z n0 s own_R3 (some (.int (f3_170 i0))) A) := by
  unfold f3_170
  refine i_iloadN (pc' := 171) K X d3_170 rfl rfl ?_
  refine ldcI (pc' := 173) (v := (64976 : Int32)) K X (i := 17) rfl d3_171 rfl ?_
  by_cases hc173 : i0 < (64976 : Int32)
  · rw [if_pos hc173]
    refine i_icmpYes (pc' := 184) K X d3_173 (tlt hc173).1 (by decide) (by decide) ?_
    exact w3_184 K X i0 (show cells + 0 ≤ 0 by omega) (show slots + 0 ≤ 0 by omega)
  · rw [if_neg hc173]
    refine i_icmpNo (pc' := 176) K X d3_173 rfl (flt hc173).1 ?_
    refine i_iloadN (pc' := 177) K X d3_176 rfl rfl ?_
    refine ldcI (pc' := 179) (v := (65007 : Int32)) K X (i := 24) rfl d3_177 rfl ?_
    by_cases hc179 : (65007 : Int32) < i0
    · rw [if_pos hc179]
      refine i_icmpYes (pc' := 184) K X d3_179 (tlt hc179).2.2.1 (by decide) (by decide) ?_
      exact w3_184 K X i0 (show cells + 0 ≤ 0 by omega) (show slots + 0 ≤ 0 by omega)
    · rw [if_neg hc179]
      refine i_icmpNo (pc' := 182) K X d3_179 rfl (flt hc179).2.2.1 ?_
      refine i_iconst (pc' := 183) (v := (1 : Int32)) K X d3_182 rfl rfl ?_
      exact retB K (by simp) X (show cells ≤ 0 by omega) (show slots ≤ 0 by omega) d3_183
def f3_156 (i0 : Int32) : Int32 :=
  if i0 < (55296 : Int32) then (f3_170 i0)
  else (if (63743 : Int32) < i0 then (f3_170 i0)
  else ((nar .boolean (1 : Int32))))
set_option maxRecDepth 65536 in
set_option maxHeartbeats 4000000 in
theorem w3_156 (K : Cx p l e own_R3 s m meth c Z a0 tables_1 "com/example/homomorphism/homomorphism/XmlCharsIsNameStartPinLaw" "excluded" method_2_code 1 (some .boolean)) (X : On p l e own_R3 s m args below meth c own_D Z n0 T A cells slots) (i0 : Int32) (hc : cells + 0 ≤ 0) (hs : slots + 0 ≤ 0) :
    Go p e below (T.setTop (mkF m 156 #[.val (.int i0)] [])) (Fini own_D Z n0 s own_R3 (some (.int (f3_156 i0))) A) := by
  unfold f3_156
  refine i_iloadN (pc' := 157) K X d3_156 rfl rfl ?_
  refine ldcI (pc' := 159) (v := (55296 : Int32)) K X (i := 16) rfl d3_157 rfl ?_
  by_cases hc159 : i0 < (55296 : Int32)
  · rw [if_pos hc159]
    refine i_icmpYes (pc' := 170) K X d3_159 (tlt hc159).1 (by decide) (by decide) ?_
    exact w3_170 K X i0 (show cells + 0 ≤ 0 by omega) (show slots + 0 ≤ 0 by omega)
  · rw [if_neg hc159]
    refine i_icmpNo (pc' := 162) K X d3_159 rfl (flt hc159).1 ?_
    refine i_iloadN (pc' := 163) K X d3_162 rfl rfl ?_
    refine ldcI (pc' := 165) (v := (63743 : Int32)) K X (i := 23) rfl d3_163 rfl ?_
    by_cases hc165 : (63743 : Int32) < i0
    · rw [if_pos hc165]
      refine i_icmpYes (pc' := 170) K X d3_165 (tlt hc165).2.2.1 (by decide) (by decide) ?_
      exact w3_170 K X i0 (show cells + 0 ≤ 0 by omega) (show slots + 0 ≤ 0 by omega)
    · rw [if_neg hc165]
      refine i_icmpNo (pc' := 168) K X d3_165 rfl (flt hc165).2.2.1 ?_
      refine i_iconst (pc' := 169) (v := (1 : Int32)) K X d3_168 rfl rfl ?_
      exact retB K (by simp) X (show cells ≤ 0 by omega) (show slots ≤ 0 by omega) d3_169
def f3_140 (i0 : Int32) : Int32 :=
  if i0 < (12272 : Int32) then (f3_156 i0)
  else (if (12288 : Int32) < i0 then (f3_156 i0)
  else ((nar .boolean (1 : Int32))))
set_option maxRecDepth 65536 in
set_option maxHeartbeats 4000000 in
theorem w3_140 (K : Cx p l e own_R3 s m meth c Z a0 tables_1 "com/example/homomorphism/homomorphism/XmlCharsIsNameStartPinLaw" "excluded" method_2_code 1 (some .boolean)) (X : On p l e own_R3 s m args below meth c own_D Z n0 T A cells slots) (i0 : Int32) (hc : cells + 0 ≤ 0) (hs : slots + 0 ≤ 0) :
    Go p e below (T.setTop (mkF m 140 #[.val (.int i0)] [])) (Fini own_D Z n0 s own_R3 (some (.int (f3_140 i0))) A) := by
  unfold f3_140
  refine i_iloadN (pc' := 141) K X d3_140 rfl rfl ?_
  refine i_sipush (pc' := 144) (v := (12272 : Int32)) K X d3_141 rfl rfl ?_
  by_cases hc144 : i0 < (12272 : Int32)
  · rw [if_pos hc144]
    refine i_icmpYes (pc' := 156) K X d3_144 (tlt hc144).1 (by decide) (by decide) ?_
    exact w3_156 K X i0 (show cells + 0 ≤ 0 by omega) (show slots + 0 ≤ 0 by omega)
  · rw [if_neg hc144]
    refine i_icmpNo (pc' := 147) K X d3_144 rfl (flt hc144).1 ?_
    refine i_iloadN (pc' := 148) K X d3_147 rfl rfl ?_
    refine i_sipush (pc' := 151) (v := (12288 : Int32)) K X d3_148 rfl rfl ?_
    by_cases hc151 : (12288 : Int32) < i0
    · rw [if_pos hc151]
      refine i_icmpYes (pc' := 156) K X d3_151 (tlt hc151).2.2.1 (by decide) (by decide) ?_
      exact w3_156 K X i0 (show cells + 0 ≤ 0 by omega) (show slots + 0 ≤ 0 by omega)
    · rw [if_neg hc151]
      refine i_icmpNo (pc' := 154) K X d3_151 rfl (flt hc151).2.2.1 ?_
      refine i_iconst (pc' := 155) (v := (1 : Int32)) K X d3_154 rfl rfl ?_
      exact retB K (by simp) X (show cells ≤ 0 by omega) (show slots ≤ 0 by omega) d3_155
def f3_124 (i0 : Int32) : Int32 :=
  if i0 < (8592 : Int32) then (f3_140 i0)
  else (if (11263 : Int32) < i0 then (f3_140 i0)
  else ((nar .boolean (1 : Int32))))
set_option maxRecDepth 65536 in
set_option maxHeartbeats 4000000 in
theorem w3_124 (K : Cx p l e own_R3 s m meth c Z a0 tables_1 "com/example/homomorphism/homomorphism/XmlCharsIsNameStartPinLaw" "excluded" method_2_code 1 (some .boolean)) (X : On p l e own_R3 s m args below meth c own_D Z n0 T A cells slots) (i0 : Int32) (hc : cells + 0 ≤ 0) (hs : slots + 0 ≤ 0) :
    Go p e below (T.setTop (mkF m 124 #[.val (.int i0)] [])) (Fini own_D Z n0 s own_R3 (some (.int (f3_124 i0))) A) := by
  unfold f3_124
  refine i_iloadN (pc' := 125) K X d3_124 rfl rfl ?_
  refine i_sipush (pc' := 128) (v := (8592 : Int32)) K X d3_125 rfl rfl ?_
  by_cases hc128 : i0 < (8592 : Int32)
  · rw [if_pos hc128]
    refine i_icmpYes (pc' := 140) K X d3_128 (tlt hc128).1 (by decide) (by decide) ?_
    exact w3_140 K X i0 (show cells + 0 ≤ 0 by omega) (show slots + 0 ≤ 0 by omega)
  · rw [if_neg hc128]
    refine i_icmpNo (pc' := 131) K X d3_128 rfl (flt hc128).1 ?_
    refine i_iloadN (pc' := 132) K X d3_131 rfl rfl ?_
    refine i_sipush (pc' := 135) (v := (11263 : Int32)) K X d3_132 rfl rfl ?_
    by_cases hc135 : (11263 : Int32) < i0
    · rw [if_pos hc135]
      refine i_icmpYes (pc' := 140) K X d3_135 (tlt hc135).2.2.1 (by decide) (by decide) ?_
      exact w3_140 K X i0 (show cells + 0 ≤ 0 by omega) (show slots + 0 ≤ 0 by omega)
    · rw [if_neg hc135]
      refine i_icmpNo (pc' := 138) K X d3_135 rfl (flt hc135).2.2.1 ?_
      refine i_iconst (pc' := 139) (v := (1 : Int32)) K X d3_138 rfl rfl ?_
      exact retB K (by simp) X (show cells ≤ 0 by omega) (show slots ≤ 0 by omega) d3_139
def f3_108 (i0 : Int32) : Int32 :=
  if i0 < (8206 : Int32) then (f3_124 i0)
  else (if (8303 : Int32) < i0 then (f3_124 i0)
  else ((nar .boolean (1 : Int32))))
set_option maxRecDepth 65536 in
set_option maxHeartbeats 4000000 in
theorem w3_108 (K : Cx p l e own_R3 s m meth c Z a0 tables_1 "com/example/homomorphism/homomorphism/XmlCharsIsNameStartPinLaw" "excluded" method_2_code 1 (some .boolean)) (X : On p l e own_R3 s m args below meth c own_D Z n0 T A cells slots) (i0 : Int32) (hc : cells + 0 ≤ 0) (hs : slots + 0 ≤ 0) :
    Go p e below (T.setTop (mkF m 108 #[.val (.int i0)] [])) (Fini own_D Z n0 s own_R3 (some (.int (f3_108 i0))) A) := by
  unfold f3_108
  refine i_iloadN (pc' := 109) K X d3_108 rfl rfl ?_
  refine i_sipush (pc' := 112) (v := (8206 : Int32)) K X d3_109 rfl rfl ?_
  by_cases hc112 : i0 < (8206 : Int32)
  · rw [if_pos hc112]
    refine i_icmpYes (pc' := 124) K X d3_112 (tlt hc112).1 (by decide) (by decide) ?_
    exact w3_124 K X i0 (show cells + 0 ≤ 0 by omega) (show slots + 0 ≤ 0 by omega)
  · rw [if_neg hc112]
    refine i_icmpNo (pc' := 115) K X d3_112 rfl (flt hc112).1 ?_
    refine i_iloadN (pc' := 116) K X d3_115 rfl rfl ?_
    refine i_sipush (pc' := 119) (v := (8303 : Int32)) K X d3_116 rfl rfl ?_
    by_cases hc119 : (8303 : Int32) < i0
    · rw [if_pos hc119]
      refine i_icmpYes (pc' := 124) K X d3_119 (tlt hc119).2.2.1 (by decide) (by decide) ?_
      exact w3_124 K X i0 (show cells + 0 ≤ 0 by omega) (show slots + 0 ≤ 0 by omega)
    · rw [if_neg hc119]
      refine i_icmpNo (pc' := 122) K X d3_119 rfl (flt hc119).2.2.1 ?_
      refine i_iconst (pc' := 123) (v := (1 : Int32)) K X d3_122 rfl rfl ?_
      exact retB K (by simp) X (show cells ≤ 0 by omega) (show slots ≤ 0 by omega) d3_123
def f3_83 (i0 : Int32) : Int32 :=
  if i0 = (894 : Int32) then ((nar .boolean (1 : Int32)))
  else (if i0 < (8192 : Int32) then (f3_108 i0)
  else (if (8203 : Int32) < i0 then (f3_108 i0)
  else ((nar .boolean (1 : Int32)))))
set_option maxRecDepth 65536 in
set_option maxHeartbeats 4000000 in
theorem w3_83 (K : Cx p l e own_R3 s m meth c Z a0 tables_1 "com/example/homomorphism/homomorphism/XmlCharsIsNameStartPinLaw" "excluded" method_2_code 1 (some .boolean)) (X : On p l e own_R3 s m args below meth c own_D Z n0 T A cells slots) (i0 : Int32) (hc : cells + 0 ≤ 0) (hs : slots + 0 ≤ 0) :
    Go p e below (T.setTop (mkF m 83 #[.val (.int i0)] [])) (Fini own_D Z n0 s own_R3 (some (.int (f3_83 i0))) A) := by
  unfold f3_83
  refine i_iloadN (pc' := 84) K X d3_83 rfl rfl ?_
  refine i_sipush (pc' := 87) (v := (894 : Int32)) K X d3_84 rfl rfl ?_
  by_cases hc87 : i0 = (894 : Int32)
  · rw [if_pos hc87]
    refine i_icmpNo (pc' := 90) K X d3_87 rfl (teq hc87).2 ?_
    refine i_iconst (pc' := 91) (v := (1 : Int32)) K X d3_90 rfl rfl ?_
    exact retB K (by simp) X (show cells ≤ 0 by omega) (show slots ≤ 0 by omega) d3_91
  · rw [if_neg hc87]
    refine i_icmpYes (pc' := 92) K X d3_87 (feq hc87).2 (by decide) (by decide) ?_
    refine i_iloadN (pc' := 93) K X d3_92 rfl rfl ?_
    refine i_sipush (pc' := 96) (v := (8192 : Int32)) K X d3_93 rfl rfl ?_
    by_cases hc96 : i0 < (8192 : Int32)
    · rw [if_pos hc96]
      refine i_icmpYes (pc' := 108) K X d3_96 (tlt hc96).1 (by decide) (by decide) ?_
      exact w3_108 K X i0 (show cells + 0 ≤ 0 by omega) (show slots + 0 ≤ 0 by omega)
    · rw [if_neg hc96]
      refine i_icmpNo (pc' := 99) K X d3_96 rfl (flt hc96).1 ?_
      refine i_iloadN (pc' := 100) K X d3_99 rfl rfl ?_
      refine i_sipush (pc' := 103) (v := (8203 : Int32)) K X d3_100 rfl rfl ?_
      by_cases hc103 : (8203 : Int32) < i0
      · rw [if_pos hc103]
        refine i_icmpYes (pc' := 108) K X d3_103 (tlt hc103).2.2.1 (by decide) (by decide) ?_
        exact w3_108 K X i0 (show cells + 0 ≤ 0 by omega) (show slots + 0 ≤ 0 by omega)
      · rw [if_neg hc103]
        refine i_icmpNo (pc' := 106) K X d3_103 rfl (flt hc103).2.2.1 ?_
        refine i_iconst (pc' := 107) (v := (1 : Int32)) K X d3_106 rfl rfl ?_
        exact retB K (by simp) X (show cells ≤ 0 by omega) (show slots ≤ 0 by omega) d3_107
def f3_51 (i0 : Int32) : Int32 :=
  if i0 = (215 : Int32) then (f3_65 )
  else (if i0 = (247 : Int32) then (f3_65 )
  else (if i0 < (768 : Int32) then (f3_83 i0)
  else (if (879 : Int32) < i0 then (f3_83 i0)
  else ((nar .boolean (1 : Int32))))))
set_option maxRecDepth 65536 in
set_option maxHeartbeats 4000000 in
theorem w3_51 (K : Cx p l e own_R3 s m meth c Z a0 tables_1 "com/example/homomorphism/homomorphism/XmlCharsIsNameStartPinLaw" "excluded" method_2_code 1 (some .boolean)) (X : On p l e own_R3 s m args below meth c own_D Z n0 T A cells slots) (i0 : Int32) (hc : cells + 0 ≤ 0) (hs : slots + 0 ≤ 0) :
    Go p e below (T.setTop (mkF m 51 #[.val (.int i0)] [])) (Fini own_D Z n0 s own_R3 (some (.int (f3_51 i0))) A) := by
  unfold f3_51
  refine i_iloadN (pc' := 52) K X d3_51 rfl rfl ?_
  refine i_sipush (pc' := 55) (v := (215 : Int32)) K X d3_52 rfl rfl ?_
  by_cases hc55 : i0 = (215 : Int32)
  · rw [if_pos hc55]
    refine i_icmpYes (pc' := 65) K X d3_55 (teq hc55).1 (by decide) (by decide) ?_
    exact w3_65 K X i0 (show cells + 0 ≤ 0 by omega) (show slots + 0 ≤ 0 by omega)
  · rw [if_neg hc55]
    refine i_icmpNo (pc' := 58) K X d3_55 rfl (feq hc55).1 ?_
    refine i_iloadN (pc' := 59) K X d3_58 rfl rfl ?_
    refine i_sipush (pc' := 62) (v := (247 : Int32)) K X d3_59 rfl rfl ?_
    by_cases hc62 : i0 = (247 : Int32)
    · rw [if_pos hc62]
      refine i_icmpNo (pc' := 65) K X d3_62 rfl (teq hc62).2 ?_
      exact w3_65 K X i0 (show cells + 0 ≤ 0 by omega) (show slots + 0 ≤ 0 by omega)
    · rw [if_neg hc62]
      refine i_icmpYes (pc' := 67) K X d3_62 (feq hc62).2 (by decide) (by decide) ?_
      refine i_iloadN (pc' := 68) K X d3_67 rfl rfl ?_
      refine i_sipush (pc' := 71) (v := (768 : Int32)) K X d3_68 rfl rfl ?_
      by_cases hc71 : i0 < (768 : Int32)
      · rw [if_pos hc71]
        refine i_icmpYes (pc' := 83) K X d3_71 (tlt hc71).1 (by decide) (by decide) ?_
        exact w3_83 K X i0 (show cells + 0 ≤ 0 by omega) (show slots + 0 ≤ 0 by omega)
      · rw [if_neg hc71]
        refine i_icmpNo (pc' := 74) K X d3_71 rfl (flt hc71).1 ?_
        refine i_iloadN (pc' := 75) K X d3_74 rfl rfl ?_
        refine i_sipush (pc' := 78) (v := (879 : Int32)) K X d3_75 rfl rfl ?_
        by_cases hc78 : (879 : Int32) < i0
        · rw [if_pos hc78]
          refine i_icmpYes (pc' := 83) K X d3_78 (tlt hc78).2.2.1 (by decide) (by decide) ?_
          exact w3_83 K X i0 (show cells + 0 ≤ 0 by omega) (show slots + 0 ≤ 0 by omega)
        · rw [if_neg hc78]
          refine i_icmpNo (pc' := 81) K X d3_78 rfl (flt hc78).2.2.1 ?_
          refine i_iconst (pc' := 82) (v := (1 : Int32)) K X d3_81 rfl rfl ?_
          exact retB K (by simp) X (show cells ≤ 0 by omega) (show slots ≤ 0 by omega) d3_82
def f3_28 (i0 : Int32) : Int32 :=
  if i0 = (96 : Int32) then ((nar .boolean (1 : Int32)))
  else (if i0 < (123 : Int32) then (f3_51 i0)
  else (if (191 : Int32) < i0 then (f3_51 i0)
  else ((nar .boolean (1 : Int32)))))
set_option maxRecDepth 65536 in
set_option maxHeartbeats 4000000 in
theorem w3_28 (K : Cx p l e own_R3 s m meth c Z a0 tables_1 "com/example/homomorphism/homomorphism/XmlCharsIsNameStartPinLaw" "excluded" method_2_code 1 (some .boolean)) (X : On p l e own_R3 s m args below meth c own_D Z n0 T A cells slots) (i0 : Int32) (hc : cells + 0 ≤ 0) (hs : slots + 0 ≤ 0) :
    Go p e below (T.setTop (mkF m 28 #[.val (.int i0)] [])) (Fini own_D Z n0 s own_R3 (some (.int (f3_28 i0))) A) := by
  unfold f3_28
  refine i_iloadN (pc' := 29) K X d3_28 rfl rfl ?_
  refine i_bipush (pc' := 31) (v := (96 : Int32)) K X d3_29 rfl rfl ?_
  by_cases hc31 : i0 = (96 : Int32)
  · rw [if_pos hc31]
    refine i_icmpNo (pc' := 34) K X d3_31 rfl (teq hc31).2 ?_
    refine i_iconst (pc' := 35) (v := (1 : Int32)) K X d3_34 rfl rfl ?_
    exact retB K (by simp) X (show cells ≤ 0 by omega) (show slots ≤ 0 by omega) d3_35
  · rw [if_neg hc31]
    refine i_icmpYes (pc' := 36) K X d3_31 (feq hc31).2 (by decide) (by decide) ?_
    refine i_iloadN (pc' := 37) K X d3_36 rfl rfl ?_
    refine i_bipush (pc' := 39) (v := (123 : Int32)) K X d3_37 rfl rfl ?_
    by_cases hc39 : i0 < (123 : Int32)
    · rw [if_pos hc39]
      refine i_icmpYes (pc' := 51) K X d3_39 (tlt hc39).1 (by decide) (by decide) ?_
      exact w3_51 K X i0 (show cells + 0 ≤ 0 by omega) (show slots + 0 ≤ 0 by omega)
    · rw [if_neg hc39]
      refine i_icmpNo (pc' := 42) K X d3_39 rfl (flt hc39).1 ?_
      refine i_iloadN (pc' := 43) K X d3_42 rfl rfl ?_
      refine i_sipush (pc' := 46) (v := (191 : Int32)) K X d3_43 rfl rfl ?_
      by_cases hc46 : (191 : Int32) < i0
      · rw [if_pos hc46]
        refine i_icmpYes (pc' := 51) K X d3_46 (tlt hc46).2.2.1 (by decide) (by decide) ?_
        exact w3_51 K X i0 (show cells + 0 ≤ 0 by omega) (show slots + 0 ≤ 0 by omega)
      · rw [if_neg hc46]
        refine i_icmpNo (pc' := 49) K X d3_46 rfl (flt hc46).2.2.1 ?_
        refine i_iconst (pc' := 50) (v := (1 : Int32)) K X d3_49 rfl rfl ?_
        exact retB K (by simp) X (show cells ≤ 0 by omega) (show slots ≤ 0 by omega) d3_50
def f3_0 (i0 : Int32) : Int32 :=
  if i0 < (65 : Int32) then (f3_12 )
  else (if (983039 : Int32) < i0 then (f3_12 )
  else (if i0 < (91 : Int32) then (f3_28 i0)
  else (if (94 : Int32) < i0 then (f3_28 i0)
  else ((nar .boolean (1 : Int32))))))
set_option maxRecDepth 65536 in
set_option maxHeartbeats 4000000 in
theorem w3_0 (K : Cx p l e own_R3 s m meth c Z a0 tables_1 "com/example/homomorphism/homomorphism/XmlCharsIsNameStartPinLaw" "excluded" method_2_code 1 (some .boolean)) (X : On p l e own_R3 s m args below meth c own_D Z n0 T A cells slots) (i0 : Int32) (hc : cells + 0 ≤ 0) (hs : slots + 0 ≤ 0) :
    Go p e below (T.setTop (mkF m 0 #[.val (.int i0)] [])) (Fini own_D Z n0 s own_R3 (some (.int (f3_0 i0))) A) := by
  unfold f3_0
  refine i_iloadN (pc' := 1) K X d3_0 rfl rfl ?_
  refine i_bipush (pc' := 3) (v := (65 : Int32)) K X d3_1 rfl rfl ?_
  by_cases hc3 : i0 < (65 : Int32)
  · rw [if_pos hc3]
    refine i_icmpYes (pc' := 12) K X d3_3 (tlt hc3).1 (by decide) (by decide) ?_
    exact w3_12 K X i0 (show cells + 0 ≤ 0 by omega) (show slots + 0 ≤ 0 by omega)
  · rw [if_neg hc3]
    refine i_icmpNo (pc' := 6) K X d3_3 rfl (flt hc3).1 ?_
    refine i_iloadN (pc' := 7) K X d3_6 rfl rfl ?_
    refine ldcI (pc' := 9) (v := (983039 : Int32)) K X (i := 15) rfl d3_7 rfl ?_
    by_cases hc9 : (983039 : Int32) < i0
    · rw [if_pos hc9]
      refine i_icmpNo (pc' := 12) K X d3_9 rfl (tlt hc9).2.2.2 ?_
      exact w3_12 K X i0 (show cells + 0 ≤ 0 by omega) (show slots + 0 ≤ 0 by omega)
    · rw [if_neg hc9]
      refine i_icmpYes (pc' := 14) K X d3_9 (flt hc9).2.2.2 (by decide) (by decide) ?_
      refine i_iloadN (pc' := 15) K X d3_14 rfl rfl ?_
      refine i_bipush (pc' := 17) (v := (91 : Int32)) K X d3_15 rfl rfl ?_
      by_cases hc17 : i0 < (91 : Int32)
      · rw [if_pos hc17]
        refine i_icmpYes (pc' := 28) K X d3_17 (tlt hc17).1 (by decide) (by decide) ?_
        exact w3_28 K X i0 (show cells + 0 ≤ 0 by omega) (show slots + 0 ≤ 0 by omega)
      · rw [if_neg hc17]
        refine i_icmpNo (pc' := 20) K X d3_17 rfl (flt hc17).1 ?_
        refine i_iloadN (pc' := 21) K X d3_20 rfl rfl ?_
        refine i_bipush (pc' := 23) (v := (94 : Int32)) K X d3_21 rfl rfl ?_
        by_cases hc23 : (94 : Int32) < i0
        · rw [if_pos hc23]
          refine i_icmpYes (pc' := 28) K X d3_23 (tlt hc23).2.2.1 (by decide) (by decide) ?_
          exact w3_28 K X i0 (show cells + 0 ≤ 0 by omega) (show slots + 0 ≤ 0 by omega)
        · rw [if_neg hc23]
          refine i_icmpNo (pc' := 26) K X d3_23 rfl (flt hc23).2.2.1 ?_
          refine i_iconst (pc' := 27) (v := (1 : Int32)) K X d3_26 rfl rfl ?_
          exact retB K (by simp) X (show cells ≤ 0 by omega) (show slots ≤ 0 by omega) d3_27
theorem pn_3 : plainName "com/example/homomorphism/homomorphism/XmlCharsIsNameStartPinLaw" = true := by first | (simp [plainName, overriddenIn]; done) | decide +kernel
theorem rm3 {l : Launch} {Z : State} {a0 : Array Value} {n0 : Nat} (hw : ∀ d ∈ tables_1, d.before a0 Z = true) (A : AH) (i0 : Int32) :
    Met l own_D Z n0 (⟨"com/example/homomorphism/homomorphism/XmlCharsIsNameStartPinLaw", "excluded", "(I)Z"⟩ : MethodName) method_2_code 1 (some .boolean) own_R3 [(.int i0)] A (some (.int (f3_0 i0))) A :=
  met (W := tables_1) (a0 := a0) (own := "com/example/homomorphism/homomorphism/XmlCharsIsNameStartPinLaw") (nm := "excluded") (L0 := #[.val (.int i0)]) (plainFor_of_name pn_3) hw rfl rfl (fun m => by first | (simp [entryFrame, mkF, argsToLocals, Value.category]; done) | rfl) (fun p e s m below meth c T K X => w3_0 K X i0 (show 0 + 0 ≤ 0 by decide) (show 0 + 0 ≤ 0 by decide))
/-! body 1: XmlCharsIsNameStartPinLaw.agrees(I)Z -/
theorem d1_0 : decode method_3_code 0 = .ok (.iload_n 0, 1) := by decide +kernel
theorem d1_1 : decode method_3_code 1 = .ok (.invokestatic 14, 3) := by decide +kernel
theorem d1_4 : decode method_3_code 4 = .ok (.iload_n 0, 1) := by decide +kernel
theorem d1_5 : decode method_3_code 5 = .ok (.invokestatic 20, 3) := by decide +kernel
theorem d1_8 : decode method_3_code 8 = .ok (.ifCond .ne 7, 3) := by decide +kernel
theorem d1_11 : decode method_3_code 11 = .ok (.iconst 1, 1) := by decide +kernel
theorem d1_12 : decode method_3_code 12 = .ok (.goto 4, 3) := by decide +kernel
theorem d1_15 : decode method_3_code 15 = .ok (.iconst 0, 1) := by decide +kernel
theorem d1_16 : decode method_3_code 16 = .ok (.if_icmp .ne 7, 3) := by decide +kernel
theorem d1_19 : decode method_3_code 19 = .ok (.iconst 1, 1) := by decide +kernel
theorem d1_20 : decode method_3_code 20 = .ok (.goto 4, 3) := by decide +kernel
theorem d1_23 : decode method_3_code 23 = .ok (.iconst 0, 1) := by decide +kernel
theorem d1_24 : decode method_3_code 24 = .ok (.ireturn, 1) := by decide +kernel
theorem pd_1 : parseMethodDescriptor "(I)Z" = some ⟨[.int], some .boolean⟩ := by decide +kernel
abbrev own_R1 : Room := { frames := 1, cells := 0, slots := 0, locals := 13 }
def f1_24 (s0 : Int32) : Int32 :=
  (nar .boolean s0)
set_option maxRecDepth 65536 in
set_option maxHeartbeats 4000000 in
theorem w1_24 (K : Cx p l e own_R1 s m meth c Z a0 tables_1 "com/example/homomorphism/homomorphism/XmlCharsIsNameStartPinLaw" "agrees" method_3_code 1 (some .boolean)) (X : On p l e own_R1 s m args below meth c own_D Z n0 T A cells slots) (i0 : Int32) (s0 : Int32) (hc : cells + 0 ≤ 0) (hs : slots + 0 ≤ 0) :
    Go p e below (T.setTop (mkF m 24 #[.val (.int i0)] [(.int s0)])) (Fini own_D Z n0 s own_R1 (some (.int (f1_24 s0))) A) := by
  unfold f1_24
  exact retB K (by simp) X (show cells ≤ 0 by omega) (show slots ≤ 0 by omega) d1_24
def f1_16 (s0 : Int32) (s1 : Int32) : Int32 :=
  if s1 = s0 then (f1_24 (1 : Int32))
  else (f1_24 (0 : Int32))
set_option maxRecDepth 65536 in
set_option maxHeartbeats 4000000 in
theorem w1_16 (K : Cx p l e own_R1 s m meth c Z a0 tables_1 "com/example/homomorphism/homomorphism/XmlCharsIsNameStartPinLaw" "agrees" method_3_code 1 (some .boolean)) (X : On p l e own_R1 s m args below meth c own_D Z n0 T A cells slots) (i0 : Int32) (s0 : Int32) (s1 : Int32) (hc : cells + 0 ≤ 0) (hs : slots + 0 ≤ 0) :
    Go p e below (T.setTop (mkF m 16 #[.val (.int i0)] [(.int s0), (.int s1)])) (Fini own_D Z n0 s own_R1 (some (.int (f1_16 s0 s1))) A) := by
  unfold f1_16
  by_cases hc16 : s1 = s0
  · rw [if_pos hc16]
    refine i_icmpNo (pc' := 19) K X d1_16 rfl (teq hc16).2 ?_
    refine i_iconst (pc' := 20) (v := (1 : Int32)) K X d1_19 rfl rfl ?_
    refine i_goto (pc' := 24) K X d1_20 (by decide) (by decide) ?_
    exact w1_24 K X i0 (1 : Int32) (show cells + 0 ≤ 0 by omega) (show slots + 0 ≤ 0 by omega)
  · rw [if_neg hc16]
    refine i_icmpYes (pc' := 23) K X d1_16 (feq hc16).2 (by decide) (by decide) ?_
    refine i_iconst (pc' := 24) (v := (0 : Int32)) K X d1_23 rfl rfl ?_
    exact w1_24 K X i0 (0 : Int32) (show cells + 0 ≤ 0 by omega) (show slots + 0 ≤ 0 by omega)
def f1_0 (i0 : Int32) : Int32 :=
  if (f3_0 i0) = (0 : Int32) then (f1_16 (1 : Int32) (f2_0 i0))
  else (f1_16 (0 : Int32) (f2_0 i0))
set_option maxRecDepth 65536 in
set_option maxHeartbeats 4000000 in
theorem w1_0 (K : Cx p l e own_R1 s m meth c Z a0 tables_1 "com/example/homomorphism/homomorphism/XmlCharsIsNameStartPinLaw" "agrees" method_3_code 1 (some .boolean)) (X : On p l e own_R1 s m args below meth c own_D Z n0 T A cells slots) (i0 : Int32) (hc : cells + 0 ≤ 0) (hs : slots + 0 ≤ 0) :
    Go p e below (T.setTop (mkF m 0 #[.val (.int i0)] [])) (Fini own_D Z n0 s own_R1 (some (.int (f1_0 i0))) A) := by
  unfold f1_0
  refine i_iloadN (pc' := 1) K X d1_0 rfl rfl ?_
  refine calls (pc' := 4) (kc := cells) (ks := slots) (S' := [(.int (f2_0 i0))]) (st := []) K X (i1 := 5) rfl (i2 := 6) rfl (i3 := 7) rfl (i4 := 8) rfl (by decide) (rm2 (l := l) (n0 := n0) (K.2.2.2.2.2.2.2.2) A i0) pd_2 rfl d1_1 rfl rfl (by decide) (w := 0) (Nat.le_of_eq rfl) (by decide) (show cells + 0 ≤ 0 by omega) (show slots + 0 ≤ 0 by omega) rfl rfl rfl rfl (fun T1 X1 => ?_)
  refine i_iloadN (pc' := 5) K X1 d1_4 rfl rfl ?_
  refine calls (pc' := 8) (kc := cells) (ks := slots) (S' := [(.int (f3_0 i0)), (.int (f2_0 i0))]) (st := [(.int (f2_0 i0))]) K X1 (i1 := 12) rfl (i2 := 13) rfl (i3 := 3) rfl (i4 := 14) rfl (by decide) (rm3 (l := l) (n0 := n0) (K.2.2.2.2.2.2.2.2) A i0) pd_3 rfl d1_5 rfl rfl (by decide) (w := 1) (Nat.le_of_eq rfl) (by decide) (show cells + 0 ≤ 0 by omega) (show slots + 0 ≤ 0 by omega) rfl rfl rfl rfl (fun T2 X2 => ?_)
  by_cases hc8 : (f3_0 i0) = (0 : Int32)
  · rw [if_pos hc8]
    refine i_ifNo (pc' := 11) K X2 d1_8 rfl (teq hc8).2 ?_
    refine i_iconst (pc' := 12) (v := (1 : Int32)) K X2 d1_11 rfl rfl ?_
    refine i_goto (pc' := 16) K X2 d1_12 (by decide) (by decide) ?_
    exact w1_16 K X2 i0 (1 : Int32) (f2_0 i0) (show cells + 0 ≤ 0 by omega) (show slots + 0 ≤ 0 by omega)
  · rw [if_neg hc8]
    refine i_ifYes (pc' := 15) K X2 d1_8 (feq hc8).2 (by decide) (by decide) ?_
    refine i_iconst (pc' := 16) (v := (0 : Int32)) K X2 d1_15 rfl rfl ?_
    exact w1_16 K X2 i0 (0 : Int32) (f2_0 i0) (show cells + 0 ≤ 0 by omega) (show slots + 0 ≤ 0 by omega)
theorem pn_1 : plainName "com/example/homomorphism/homomorphism/XmlCharsIsNameStartPinLaw" = true := by first | (simp [plainName, overriddenIn]; done) | decide +kernel
theorem rm1 {l : Launch} {Z : State} {a0 : Array Value} {n0 : Nat} (hw : ∀ d ∈ tables_1, d.before a0 Z = true) (A : AH) (i0 : Int32) :
    Met l own_D Z n0 (⟨"com/example/homomorphism/homomorphism/XmlCharsIsNameStartPinLaw", "agrees", "(I)Z"⟩ : MethodName) method_3_code 1 (some .boolean) own_R1 [(.int i0)] A (some (.int (f1_0 i0))) A :=
  met (W := tables_1) (a0 := a0) (own := "com/example/homomorphism/homomorphism/XmlCharsIsNameStartPinLaw") (nm := "agrees") (L0 := #[.val (.int i0)]) (plainFor_of_name pn_1) hw rfl rfl (fun m => by first | (simp [entryFrame, mkF, argsToLocals, Value.category]; done) | rfl) (fun p e s m below meth c T K X => w1_0 K X i0 (show 0 + 0 ≤ 0 by decide) (show 0 + 0 ≤ 0 by decide))
def f0_37 (s0 : Int32) : Int32 :=
  (nar .boolean s0)
set_option maxRecDepth 65536 in
set_option maxHeartbeats 4000000 in
theorem w0_37 (K : Cx p l e room_1 s m meth c Z a0 tables_1 "com/example/homomorphism/homomorphism/XmlCharsIsNameStartPinLaw" "law" code maxLocals ret) (X : On p l e room_1 s m args below meth c own_D Z n0 T A cells slots) (i0 : Int32) (i1 : Int32) (i2 : Int32) (i3 : Int32) (s0 : Int32) (hc : cells + 0 ≤ 0) (hs : slots + 0 ≤ 0) :
    Go p e below (T.setTop (mkF m 37 #[.val (.int i0), .val (.int i1), .val (.int i2), .val (.int i3)] [(.int s0)])) (Fini own_D Z n0 s room_1 (some (.int (f0_37 s0))) A) := by
  unfold f0_37
  exact retB K (by simp) X (show cells ≤ 0 by omega) (show slots ≤ 0 by omega) at_37
def f0_36  : Int32 :=
  f0_37 (0 : Int32)
set_option maxRecDepth 65536 in
set_option maxHeartbeats 4000000 in
theorem w0_36 (K : Cx p l e room_1 s m meth c Z a0 tables_1 "com/example/homomorphism/homomorphism/XmlCharsIsNameStartPinLaw" "law" code maxLocals ret) (X : On p l e room_1 s m args below meth c own_D Z n0 T A cells slots) (i0 : Int32) (i1 : Int32) (i2 : Int32) (i3 : Int32) (hc : cells + 0 ≤ 0) (hs : slots + 0 ≤ 0) :
    Go p e below (T.setTop (mkF m 36 #[.val (.int i0), .val (.int i1), .val (.int i2), .val (.int i3)] [])) (Fini own_D Z n0 s room_1 (some (.int (f0_36 ))) A) := by
  unfold f0_36
  refine i_iconst (pc' := 37) (v := (0 : Int32)) K X at_36 rfl rfl ?_
  exact w0_37 K X i0 i1 i2 i3 (0 : Int32) (show cells + 0 ≤ 0 by omega) (show slots + 0 ≤ 0 by omega)
def f0_32  : Int32 :=
  f0_37 (1 : Int32)
set_option maxRecDepth 65536 in
set_option maxHeartbeats 4000000 in
theorem w0_32 (K : Cx p l e room_1 s m meth c Z a0 tables_1 "com/example/homomorphism/homomorphism/XmlCharsIsNameStartPinLaw" "law" code maxLocals ret) (X : On p l e room_1 s m args below meth c own_D Z n0 T A cells slots) (i0 : Int32) (i1 : Int32) (i2 : Int32) (i3 : Int32) (hc : cells + 0 ≤ 0) (hs : slots + 0 ≤ 0) :
    Go p e below (T.setTop (mkF m 32 #[.val (.int i0), .val (.int i1), .val (.int i2), .val (.int i3)] [])) (Fini own_D Z n0 s room_1 (some (.int (f0_32 ))) A) := by
  unfold f0_32
  refine i_iconst (pc' := 33) (v := (1 : Int32)) K X at_32 rfl rfl ?_
  refine i_goto (pc' := 37) K X at_33 (by decide) (by decide) ?_
  exact w0_37 K X i0 i1 i2 i3 (1 : Int32) (show cells + 0 ≤ 0 by omega) (show slots + 0 ≤ 0 by omega)
def f0_0 (i0 : Int32) (i1 : Int32) : Int32 :=
  if (f1_0 i0) = (0 : Int32) then (f0_36 )
  else (if (f1_0 (i1 &&& (1048575 : Int32))) = (0 : Int32) then (f0_36 )
  else (if (f1_0 (i1 &&& (16383 : Int32))) = (0 : Int32) then (f0_36 )
  else (f0_32 )))
set_option maxRecDepth 65536 in
set_option maxHeartbeats 4000000 in
theorem w0_0 (K : Cx p l e room_1 s m meth c Z a0 tables_1 "com/example/homomorphism/homomorphism/XmlCharsIsNameStartPinLaw" "law" code maxLocals ret) (X : On p l e room_1 s m args below meth c own_D Z n0 T A cells slots) (i0 : Int32) (i1 : Int32) (hc : cells + 0 ≤ 0) (hs : slots + 0 ≤ 0) :
    Go p e below (T.setTop (mkF m 0 #[.val (.int i0), .val (.int i1), .unset, .unset] [])) (Fini own_D Z n0 s room_1 (some (.int (f0_0 i0 i1))) A) := by
  unfold f0_0
  refine i_iloadN (pc' := 1) K X at_0 rfl rfl ?_
  refine ldcI (pc' := 3) (v := (1048575 : Int32)) K X (i := 0) rfl at_1 rfl ?_
  refine i_iand (pc' := 4) K X at_3 rfl ?_
  refine i_istoreN (pc' := 5) (Ls' := #[.val (.int i0), .val (.int i1), .val (.int (i1 &&& (1048575 : Int32))), .unset]) K X at_4 rfl rfl ?_
  refine i_iloadN (pc' := 6) K X at_5 rfl rfl ?_
  refine i_sipush (pc' := 9) (v := (16383 : Int32)) K X at_6 rfl rfl ?_
  refine i_iand (pc' := 10) K X at_9 rfl ?_
  refine i_istoreN (pc' := 11) (Ls' := #[.val (.int i0), .val (.int i1), .val (.int (i1 &&& (1048575 : Int32))), .val (.int (i1 &&& (16383 : Int32)))]) K X at_10 rfl rfl ?_
  refine i_iloadN (pc' := 12) K X at_11 rfl rfl ?_
  refine calls (pc' := 15) (kc := cells) (ks := slots) (S' := [(.int (f1_0 i0))]) (st := []) K X (i1 := 1) rfl (i2 := 2) rfl (i3 := 3) rfl (i4 := 4) rfl (by decide) (rm1 (l := l) (n0 := n0) (K.2.2.2.2.2.2.2.2) A i0) pd_1 rfl at_12 rfl rfl (by decide) (w := 0) (Nat.le_of_eq rfl) (by decide) (show cells + 0 ≤ 0 by omega) (show slots + 0 ≤ 0 by omega) rfl rfl rfl rfl (fun T1 X1 => ?_)
  by_cases hc15 : (f1_0 i0) = (0 : Int32)
  · rw [if_pos hc15]
    refine i_ifYes (pc' := 36) K X1 at_15 (teq hc15).1 (by decide) (by decide) ?_
    exact w0_36 K X1 i0 i1 (i1 &&& (1048575 : Int32)) (i1 &&& (16383 : Int32)) (show cells + 0 ≤ 0 by omega) (show slots + 0 ≤ 0 by omega)
  · rw [if_neg hc15]
    refine i_ifNo (pc' := 18) K X1 at_15 rfl (feq hc15).1 ?_
    refine i_iloadN (pc' := 19) K X1 at_18 rfl rfl ?_
    refine calls (pc' := 22) (kc := cells) (ks := slots) (S' := [(.int (f1_0 (i1 &&& (1048575 : Int32))))]) (st := []) K X1 (i1 := 1) rfl (i2 := 2) rfl (i3 := 3) rfl (i4 := 4) rfl (by decide) (rm1 (l := l) (n0 := n0) (K.2.2.2.2.2.2.2.2) A (i1 &&& (1048575 : Int32))) pd_1 rfl at_19 rfl rfl (by decide) (w := 0) (Nat.le_of_eq rfl) (by decide) (show cells + 0 ≤ 0 by omega) (show slots + 0 ≤ 0 by omega) rfl rfl rfl rfl (fun T2 X2 => ?_)
    by_cases hc22 : (f1_0 (i1 &&& (1048575 : Int32))) = (0 : Int32)
    · rw [if_pos hc22]
      refine i_ifYes (pc' := 36) K X2 at_22 (teq hc22).1 (by decide) (by decide) ?_
      exact w0_36 K X2 i0 i1 (i1 &&& (1048575 : Int32)) (i1 &&& (16383 : Int32)) (show cells + 0 ≤ 0 by omega) (show slots + 0 ≤ 0 by omega)
    · rw [if_neg hc22]
      refine i_ifNo (pc' := 25) K X2 at_22 rfl (feq hc22).1 ?_
      refine i_iloadN (pc' := 26) K X2 at_25 rfl rfl ?_
      refine calls (pc' := 29) (kc := cells) (ks := slots) (S' := [(.int (f1_0 (i1 &&& (16383 : Int32))))]) (st := []) K X2 (i1 := 1) rfl (i2 := 2) rfl (i3 := 3) rfl (i4 := 4) rfl (by decide) (rm1 (l := l) (n0 := n0) (K.2.2.2.2.2.2.2.2) A (i1 &&& (16383 : Int32))) pd_1 rfl at_26 rfl rfl (by decide) (w := 0) (Nat.le_of_eq rfl) (by decide) (show cells + 0 ≤ 0 by omega) (show slots + 0 ≤ 0 by omega) rfl rfl rfl rfl (fun T3 X3 => ?_)
      by_cases hc29 : (f1_0 (i1 &&& (16383 : Int32))) = (0 : Int32)
      · rw [if_pos hc29]
        refine i_ifYes (pc' := 36) K X3 at_29 (teq hc29).1 (by decide) (by decide) ?_
        exact w0_36 K X3 i0 i1 (i1 &&& (1048575 : Int32)) (i1 &&& (16383 : Int32)) (show cells + 0 ≤ 0 by omega) (show slots + 0 ≤ 0 by omega)
      · rw [if_neg hc29]
        refine i_ifNo (pc' := 32) K X3 at_29 rfl (feq hc29).1 ?_
        exact w0_32 K X3 i0 i1 (i1 &&& (1048575 : Int32)) (i1 &&& (16383 : Int32)) (show cells + 0 ≤ 0 by omega) (show slots + 0 ≤ 0 by omega)
theorem pn_0 : plainName "com/example/homomorphism/homomorphism/XmlCharsIsNameStartPinLaw" = true := by first | (simp [plainName, overriddenIn]; done) | decide +kernel
theorem rm0 {l : Launch} {Z : State} {a0 : Array Value} {n0 : Nat} (hw : ∀ d ∈ tables_1, d.before a0 Z = true) (A : AH) (i0 : Int32) (i1 : Int32) :
    Met l own_D Z n0 x code maxLocals ret room_1 [(.int i0), (.int i1)] A (some (.int (f0_0 i0 i1))) A :=
  met (W := tables_1) (a0 := a0) (own := "com/example/homomorphism/homomorphism/XmlCharsIsNameStartPinLaw") (nm := "law") (L0 := #[.val (.int i0), .val (.int i1), .unset, .unset]) (plainFor_of_name pn_0) hw rfl rfl (fun m => by first | (simp [entryFrame, mkF, argsToLocals, Value.category, maxLocals]; done) | rfl) (fun p e s m below meth c T K X => w0_0 K X i0 i1 (show 0 + 0 ≤ 0 by decide) (show 0 + 0 ≤ 0 by decide))
end OwnWalk
/-! the plain law -/
theorem own2_179 (c : Int32) : f2_179 c = if (65536 ≤ c.toInt ∧ c.toInt ≤ 983039) then 1 else 0 := by
  have y1 : f2_191 = 1 := by decide
  have y0 : f2_195 = 0 := by decide
  unfold f2_179
  simp only [y1, y0]
  simp only [Int32.lt_iff_toInt_lt, ← Int32.toInt_inj (x := c), Int32.reduceToInt]
  generalize c.toInt = n
  repeat' split
  all_goals first
    | rfl
    | (exfalso; omega)
theorem own2_167 (c : Int32) : f2_167 c = if (65536 ≤ c.toInt ∧ c.toInt ≤ 983039) ∨ (65008 ≤ c.toInt ∧ c.toInt ≤ 65533) then 1 else 0 := by
  have y1 : f2_191 = 1 := by decide
  have y0 : f2_195 = 0 := by decide
  unfold f2_167
  simp only [own2_179, y1, y0]
  simp only [Int32.lt_iff_toInt_lt, ← Int32.toInt_inj (x := c), Int32.reduceToInt]
  generalize c.toInt = n
  repeat' split
  all_goals first
    | rfl
    | (exfalso; omega)
theorem own2_155 (c : Int32) : f2_155 c = if (65536 ≤ c.toInt ∧ c.toInt ≤ 983039) ∨ (65008 ≤ c.toInt ∧ c.toInt ≤ 65533) ∨ (63744 ≤ c.toInt ∧ c.toInt ≤ 64975) then 1 else 0 := by
  have y1 : f2_191 = 1 := by decide
  have y0 : f2_195 = 0 := by decide
  unfold f2_155
  simp only [own2_167, y1, y0]
  simp only [Int32.lt_iff_toInt_lt, ← Int32.toInt_inj (x := c), Int32.reduceToInt]
  generalize c.toInt = n
  repeat' split
  all_goals first
    | rfl
    | (exfalso; omega)
theorem own2_142 (c : Int32) : f2_142 c = if (65536 ≤ c.toInt ∧ c.toInt ≤ 983039) ∨ (65008 ≤ c.toInt ∧ c.toInt ≤ 65533) ∨ (63744 ≤ c.toInt ∧ c.toInt ≤ 64975) ∨ (12289 ≤ c.toInt ∧ c.toInt ≤ 55295) then 1 else 0 := by
  have y1 : f2_191 = 1 := by decide
  have y0 : f2_195 = 0 := by decide
  unfold f2_142
  simp only [own2_155, y1, y0]
  simp only [Int32.lt_iff_toInt_lt, ← Int32.toInt_inj (x := c), Int32.reduceToInt]
  generalize c.toInt = n
  repeat' split
  all_goals first
    | rfl
    | (exfalso; omega)
theorem own2_128 (c : Int32) : f2_128 c = if (65536 ≤ c.toInt ∧ c.toInt ≤ 983039) ∨ (65008 ≤ c.toInt ∧ c.toInt ≤ 65533) ∨ (63744 ≤ c.toInt ∧ c.toInt ≤ 64975) ∨ (12289 ≤ c.toInt ∧ c.toInt ≤ 55295) ∨ (11264 ≤ c.toInt ∧ c.toInt ≤ 12271) then 1 else 0 := by
  have y1 : f2_191 = 1 := by decide
  have y0 : f2_195 = 0 := by decide
  unfold f2_128
  simp only [own2_142, y1, y0]
  simp only [Int32.lt_iff_toInt_lt, ← Int32.toInt_inj (x := c), Int32.reduceToInt]
  generalize c.toInt = n
  repeat' split
  all_goals first
    | rfl
    | (exfalso; omega)
theorem own2_114 (c : Int32) : f2_114 c = if (65536 ≤ c.toInt ∧ c.toInt ≤ 983039) ∨ (65008 ≤ c.toInt ∧ c.toInt ≤ 65533) ∨ (63744 ≤ c.toInt ∧ c.toInt ≤ 64975) ∨ (12289 ≤ c.toInt ∧ c.toInt ≤ 55295) ∨ (11264 ≤ c.toInt ∧ c.toInt ≤ 12271) ∨ (8304 ≤ c.toInt ∧ c.toInt ≤ 8591) then 1 else 0 := by
  have y1 : f2_191 = 1 := by decide
  have y0 : f2_195 = 0 := by decide
  unfold f2_114
  simp only [own2_128, y1, y0]
  simp only [Int32.lt_iff_toInt_lt, ← Int32.toInt_inj (x := c), Int32.reduceToInt]
  generalize c.toInt = n
  repeat' split
  all_goals first
    | rfl
    | (exfalso; omega)
theorem own2_100 (c : Int32) : f2_100 c = if (65536 ≤ c.toInt ∧ c.toInt ≤ 983039) ∨ (65008 ≤ c.toInt ∧ c.toInt ≤ 65533) ∨ (63744 ≤ c.toInt ∧ c.toInt ≤ 64975) ∨ (12289 ≤ c.toInt ∧ c.toInt ≤ 55295) ∨ (11264 ≤ c.toInt ∧ c.toInt ≤ 12271) ∨ (8304 ≤ c.toInt ∧ c.toInt ≤ 8591) ∨ (8204 ≤ c.toInt ∧ c.toInt ≤ 8205) then 1 else 0 := by
  have y1 : f2_191 = 1 := by decide
  have y0 : f2_195 = 0 := by decide
  unfold f2_100
  simp only [own2_114, y1, y0]
  simp only [Int32.lt_iff_toInt_lt, ← Int32.toInt_inj (x := c), Int32.reduceToInt]
  generalize c.toInt = n
  repeat' split
  all_goals first
    | rfl
    | (exfalso; omega)
theorem own2_86 (c : Int32) : f2_86 c = if (65536 ≤ c.toInt ∧ c.toInt ≤ 983039) ∨ (65008 ≤ c.toInt ∧ c.toInt ≤ 65533) ∨ (63744 ≤ c.toInt ∧ c.toInt ≤ 64975) ∨ (12289 ≤ c.toInt ∧ c.toInt ≤ 55295) ∨ (11264 ≤ c.toInt ∧ c.toInt ≤ 12271) ∨ (8304 ≤ c.toInt ∧ c.toInt ≤ 8591) ∨ (8204 ≤ c.toInt ∧ c.toInt ≤ 8205) ∨ (895 ≤ c.toInt ∧ c.toInt ≤ 8191) then 1 else 0 := by
  have y1 : f2_191 = 1 := by decide
  have y0 : f2_195 = 0 := by decide
  unfold f2_86
  simp only [own2_100, y1, y0]
  simp only [Int32.lt_iff_toInt_lt, ← Int32.toInt_inj (x := c), Int32.reduceToInt]
  generalize c.toInt = n
  repeat' split
  all_goals first
    | rfl
    | (exfalso; omega)
theorem own2_72 (c : Int32) : f2_72 c = if (65536 ≤ c.toInt ∧ c.toInt ≤ 983039) ∨ (65008 ≤ c.toInt ∧ c.toInt ≤ 65533) ∨ (63744 ≤ c.toInt ∧ c.toInt ≤ 64975) ∨ (12289 ≤ c.toInt ∧ c.toInt ≤ 55295) ∨ (11264 ≤ c.toInt ∧ c.toInt ≤ 12271) ∨ (8304 ≤ c.toInt ∧ c.toInt ≤ 8591) ∨ (8204 ≤ c.toInt ∧ c.toInt ≤ 8205) ∨ (895 ≤ c.toInt ∧ c.toInt ≤ 8191) ∨ (880 ≤ c.toInt ∧ c.toInt ≤ 893) then 1 else 0 := by
  have y1 : f2_191 = 1 := by decide
  have y0 : f2_195 = 0 := by decide
  unfold f2_72
  simp only [own2_86, y1, y0]
  simp only [Int32.lt_iff_toInt_lt, ← Int32.toInt_inj (x := c), Int32.reduceToInt]
  generalize c.toInt = n
  repeat' split
  all_goals first
    | rfl
    | (exfalso; omega)
theorem own2_58 (c : Int32) : f2_58 c = if (65536 ≤ c.toInt ∧ c.toInt ≤ 983039) ∨ (65008 ≤ c.toInt ∧ c.toInt ≤ 65533) ∨ (63744 ≤ c.toInt ∧ c.toInt ≤ 64975) ∨ (12289 ≤ c.toInt ∧ c.toInt ≤ 55295) ∨ (11264 ≤ c.toInt ∧ c.toInt ≤ 12271) ∨ (8304 ≤ c.toInt ∧ c.toInt ≤ 8591) ∨ (8204 ≤ c.toInt ∧ c.toInt ≤ 8205) ∨ (895 ≤ c.toInt ∧ c.toInt ≤ 8191) ∨ (880 ≤ c.toInt ∧ c.toInt ≤ 893) ∨ (248 ≤ c.toInt ∧ c.toInt ≤ 767) then 1 else 0 := by
  have y1 : f2_191 = 1 := by decide
  have y0 : f2_195 = 0 := by decide
  unfold f2_58
  simp only [own2_72, y1, y0]
  simp only [Int32.lt_iff_toInt_lt, ← Int32.toInt_inj (x := c), Int32.reduceToInt]
  generalize c.toInt = n
  repeat' split
  all_goals first
    | rfl
    | (exfalso; omega)
theorem own2_44 (c : Int32) : f2_44 c = if (65536 ≤ c.toInt ∧ c.toInt ≤ 983039) ∨ (65008 ≤ c.toInt ∧ c.toInt ≤ 65533) ∨ (63744 ≤ c.toInt ∧ c.toInt ≤ 64975) ∨ (12289 ≤ c.toInt ∧ c.toInt ≤ 55295) ∨ (11264 ≤ c.toInt ∧ c.toInt ≤ 12271) ∨ (8304 ≤ c.toInt ∧ c.toInt ≤ 8591) ∨ (8204 ≤ c.toInt ∧ c.toInt ≤ 8205) ∨ (895 ≤ c.toInt ∧ c.toInt ≤ 8191) ∨ (880 ≤ c.toInt ∧ c.toInt ≤ 893) ∨ (248 ≤ c.toInt ∧ c.toInt ≤ 767) ∨ (216 ≤ c.toInt ∧ c.toInt ≤ 246) then 1 else 0 := by
  have y1 : f2_191 = 1 := by decide
  have y0 : f2_195 = 0 := by decide
  unfold f2_44
  simp only [own2_58, y1, y0]
  simp only [Int32.lt_iff_toInt_lt, ← Int32.toInt_inj (x := c), Int32.reduceToInt]
  generalize c.toInt = n
  repeat' split
  all_goals first
    | rfl
    | (exfalso; omega)
theorem own2_30 (c : Int32) : f2_30 c = if (65536 ≤ c.toInt ∧ c.toInt ≤ 983039) ∨ (65008 ≤ c.toInt ∧ c.toInt ≤ 65533) ∨ (63744 ≤ c.toInt ∧ c.toInt ≤ 64975) ∨ (12289 ≤ c.toInt ∧ c.toInt ≤ 55295) ∨ (11264 ≤ c.toInt ∧ c.toInt ≤ 12271) ∨ (8304 ≤ c.toInt ∧ c.toInt ≤ 8591) ∨ (8204 ≤ c.toInt ∧ c.toInt ≤ 8205) ∨ (895 ≤ c.toInt ∧ c.toInt ≤ 8191) ∨ (880 ≤ c.toInt ∧ c.toInt ≤ 893) ∨ (248 ≤ c.toInt ∧ c.toInt ≤ 767) ∨ (216 ≤ c.toInt ∧ c.toInt ≤ 246) ∨ (192 ≤ c.toInt ∧ c.toInt ≤ 214) then 1 else 0 := by
  have y1 : f2_191 = 1 := by decide
  have y0 : f2_195 = 0 := by decide
  unfold f2_30
  simp only [own2_44, y1, y0]
  simp only [Int32.lt_iff_toInt_lt, ← Int32.toInt_inj (x := c), Int32.reduceToInt]
  generalize c.toInt = n
  repeat' split
  all_goals first
    | rfl
    | (exfalso; omega)
theorem own2_12 (c : Int32) : f2_12 c = if c.toInt = 95 ∨ (97 ≤ c.toInt ∧ c.toInt ≤ 122) ∨ (65536 ≤ c.toInt ∧ c.toInt ≤ 983039) ∨ (65008 ≤ c.toInt ∧ c.toInt ≤ 65533) ∨ (63744 ≤ c.toInt ∧ c.toInt ≤ 64975) ∨ (12289 ≤ c.toInt ∧ c.toInt ≤ 55295) ∨ (11264 ≤ c.toInt ∧ c.toInt ≤ 12271) ∨ (8304 ≤ c.toInt ∧ c.toInt ≤ 8591) ∨ (8204 ≤ c.toInt ∧ c.toInt ≤ 8205) ∨ (895 ≤ c.toInt ∧ c.toInt ≤ 8191) ∨ (880 ≤ c.toInt ∧ c.toInt ≤ 893) ∨ (248 ≤ c.toInt ∧ c.toInt ≤ 767) ∨ (216 ≤ c.toInt ∧ c.toInt ≤ 246) ∨ (192 ≤ c.toInt ∧ c.toInt ≤ 214) then 1 else 0 := by
  have y1 : f2_191 = 1 := by decide
  unfold f2_12
  simp only [own2_30, y1]
  simp only [Int32.lt_iff_toInt_lt, ← Int32.toInt_inj (x := c), Int32.reduceToInt]
  generalize c.toInt = n
  repeat' split
  all_goals first
    | rfl
    | (exfalso; omega)
theorem own2_0 (c : Int32) : f2_0 c = if (65 ≤ c.toInt ∧ c.toInt ≤ 90) ∨ c.toInt = 95 ∨ (97 ≤ c.toInt ∧ c.toInt ≤ 122) ∨ (65536 ≤ c.toInt ∧ c.toInt ≤ 983039) ∨ (65008 ≤ c.toInt ∧ c.toInt ≤ 65533) ∨ (63744 ≤ c.toInt ∧ c.toInt ≤ 64975) ∨ (12289 ≤ c.toInt ∧ c.toInt ≤ 55295) ∨ (11264 ≤ c.toInt ∧ c.toInt ≤ 12271) ∨ (8304 ≤ c.toInt ∧ c.toInt ≤ 8591) ∨ (8204 ≤ c.toInt ∧ c.toInt ≤ 8205) ∨ (895 ≤ c.toInt ∧ c.toInt ≤ 8191) ∨ (880 ≤ c.toInt ∧ c.toInt ≤ 893) ∨ (248 ≤ c.toInt ∧ c.toInt ≤ 767) ∨ (216 ≤ c.toInt ∧ c.toInt ≤ 246) ∨ (192 ≤ c.toInt ∧ c.toInt ≤ 214) then 1 else 0 := by
  have y1 : f2_191 = 1 := by decide
  unfold f2_0
  simp only [own2_12, y1]
  simp only [Int32.lt_iff_toInt_lt, ← Int32.toInt_inj (x := c), Int32.reduceToInt]
  generalize c.toInt = n
  repeat' split
  all_goals first
    | rfl
    | (exfalso; omega)
theorem own3_184 (c : Int32) : f3_184 c = if (65534 ≤ c.toInt ∧ c.toInt ≤ 65535) then 1 else 0 := by
  unfold f3_184
  simp only [f3_198, nar1, nar0]
  simp only [Int32.lt_iff_toInt_lt, ← Int32.toInt_inj (x := c), Int32.reduceToInt]
  generalize c.toInt = n
  repeat' split
  all_goals first
    | rfl
    | (exfalso; omega)
theorem own3_170 (c : Int32) : f3_170 c = if (65534 ≤ c.toInt ∧ c.toInt ≤ 65535) ∨ (64976 ≤ c.toInt ∧ c.toInt ≤ 65007) then 1 else 0 := by
  unfold f3_170
  simp only [own3_184, nar1, nar0]
  simp only [Int32.lt_iff_toInt_lt, ← Int32.toInt_inj (x := c), Int32.reduceToInt]
  generalize c.toInt = n
  repeat' split
  all_goals first
    | rfl
    | (exfalso; omega)
theorem own3_156 (c : Int32) : f3_156 c = if (65534 ≤ c.toInt ∧ c.toInt ≤ 65535) ∨ (64976 ≤ c.toInt ∧ c.toInt ≤ 65007) ∨ (55296 ≤ c.toInt ∧ c.toInt ≤ 63743) then 1 else 0 := by
  unfold f3_156
  simp only [own3_170, nar1, nar0]
  simp only [Int32.lt_iff_toInt_lt, ← Int32.toInt_inj (x := c), Int32.reduceToInt]
  generalize c.toInt = n
  repeat' split
  all_goals first
    | rfl
    | (exfalso; omega)
theorem own3_140 (c : Int32) : f3_140 c = if (65534 ≤ c.toInt ∧ c.toInt ≤ 65535) ∨ (64976 ≤ c.toInt ∧ c.toInt ≤ 65007) ∨ (55296 ≤ c.toInt ∧ c.toInt ≤ 63743) ∨ (12272 ≤ c.toInt ∧ c.toInt ≤ 12288) then 1 else 0 := by
  unfold f3_140
  simp only [own3_156, nar1, nar0]
  simp only [Int32.lt_iff_toInt_lt, ← Int32.toInt_inj (x := c), Int32.reduceToInt]
  generalize c.toInt = n
  repeat' split
  all_goals first
    | rfl
    | (exfalso; omega)
theorem own3_124 (c : Int32) : f3_124 c = if (65534 ≤ c.toInt ∧ c.toInt ≤ 65535) ∨ (64976 ≤ c.toInt ∧ c.toInt ≤ 65007) ∨ (55296 ≤ c.toInt ∧ c.toInt ≤ 63743) ∨ (12272 ≤ c.toInt ∧ c.toInt ≤ 12288) ∨ (8592 ≤ c.toInt ∧ c.toInt ≤ 11263) then 1 else 0 := by
  unfold f3_124
  simp only [own3_140, nar1, nar0]
  simp only [Int32.lt_iff_toInt_lt, ← Int32.toInt_inj (x := c), Int32.reduceToInt]
  generalize c.toInt = n
  repeat' split
  all_goals first
    | rfl
    | (exfalso; omega)
theorem own3_108 (c : Int32) : f3_108 c = if (65534 ≤ c.toInt ∧ c.toInt ≤ 65535) ∨ (64976 ≤ c.toInt ∧ c.toInt ≤ 65007) ∨ (55296 ≤ c.toInt ∧ c.toInt ≤ 63743) ∨ (12272 ≤ c.toInt ∧ c.toInt ≤ 12288) ∨ (8592 ≤ c.toInt ∧ c.toInt ≤ 11263) ∨ (8206 ≤ c.toInt ∧ c.toInt ≤ 8303) then 1 else 0 := by
  unfold f3_108
  simp only [own3_124, nar1, nar0]
  simp only [Int32.lt_iff_toInt_lt, ← Int32.toInt_inj (x := c), Int32.reduceToInt]
  generalize c.toInt = n
  repeat' split
  all_goals first
    | rfl
    | (exfalso; omega)
theorem own3_83 (c : Int32) : f3_83 c = if c.toInt = 894 ∨ (8192 ≤ c.toInt ∧ c.toInt ≤ 8203) ∨ (65534 ≤ c.toInt ∧ c.toInt ≤ 65535) ∨ (64976 ≤ c.toInt ∧ c.toInt ≤ 65007) ∨ (55296 ≤ c.toInt ∧ c.toInt ≤ 63743) ∨ (12272 ≤ c.toInt ∧ c.toInt ≤ 12288) ∨ (8592 ≤ c.toInt ∧ c.toInt ≤ 11263) ∨ (8206 ≤ c.toInt ∧ c.toInt ≤ 8303) then 1 else 0 := by
  unfold f3_83
  simp only [own3_108, f3_65, nar1, nar0]
  simp only [Int32.lt_iff_toInt_lt, ← Int32.toInt_inj (x := c), Int32.reduceToInt]
  generalize c.toInt = n
  repeat' split
  all_goals first
    | rfl
    | (exfalso; omega)
theorem own3_51 (c : Int32) : f3_51 c = if c.toInt = 215 ∨ c.toInt = 247 ∨ (768 ≤ c.toInt ∧ c.toInt ≤ 879) ∨ c.toInt = 894 ∨ (8192 ≤ c.toInt ∧ c.toInt ≤ 8203) ∨ (65534 ≤ c.toInt ∧ c.toInt ≤ 65535) ∨ (64976 ≤ c.toInt ∧ c.toInt ≤ 65007) ∨ (55296 ≤ c.toInt ∧ c.toInt ≤ 63743) ∨ (12272 ≤ c.toInt ∧ c.toInt ≤ 12288) ∨ (8592 ≤ c.toInt ∧ c.toInt ≤ 11263) ∨ (8206 ≤ c.toInt ∧ c.toInt ≤ 8303) then 1 else 0 := by
  unfold f3_51
  simp only [own3_83, f3_65, nar1, nar0]
  simp only [Int32.lt_iff_toInt_lt, ← Int32.toInt_inj (x := c), Int32.reduceToInt]
  generalize c.toInt = n
  repeat' split
  all_goals first
    | rfl
    | (exfalso; omega)
theorem own3_28 (c : Int32) : f3_28 c = if c.toInt = 96 ∨ (123 ≤ c.toInt ∧ c.toInt ≤ 191) ∨ c.toInt = 215 ∨ c.toInt = 247 ∨ (768 ≤ c.toInt ∧ c.toInt ≤ 879) ∨ c.toInt = 894 ∨ (8192 ≤ c.toInt ∧ c.toInt ≤ 8203) ∨ (65534 ≤ c.toInt ∧ c.toInt ≤ 65535) ∨ (64976 ≤ c.toInt ∧ c.toInt ≤ 65007) ∨ (55296 ≤ c.toInt ∧ c.toInt ≤ 63743) ∨ (12272 ≤ c.toInt ∧ c.toInt ≤ 12288) ∨ (8592 ≤ c.toInt ∧ c.toInt ≤ 11263) ∨ (8206 ≤ c.toInt ∧ c.toInt ≤ 8303) then 1 else 0 := by
  unfold f3_28
  simp only [own3_51, f3_65, nar1, nar0]
  simp only [Int32.lt_iff_toInt_lt, ← Int32.toInt_inj (x := c), Int32.reduceToInt]
  generalize c.toInt = n
  repeat' split
  all_goals first
    | rfl
    | (exfalso; omega)
theorem own3_0 (c : Int32) : f3_0 c = if (65 ≤ c.toInt ∧ c.toInt ≤ 90) ∨ c.toInt = 95 ∨ (97 ≤ c.toInt ∧ c.toInt ≤ 122) ∨ (65536 ≤ c.toInt ∧ c.toInt ≤ 983039) ∨ (65008 ≤ c.toInt ∧ c.toInt ≤ 65533) ∨ (63744 ≤ c.toInt ∧ c.toInt ≤ 64975) ∨ (12289 ≤ c.toInt ∧ c.toInt ≤ 55295) ∨ (11264 ≤ c.toInt ∧ c.toInt ≤ 12271) ∨ (8304 ≤ c.toInt ∧ c.toInt ≤ 8591) ∨ (8204 ≤ c.toInt ∧ c.toInt ≤ 8205) ∨ (895 ≤ c.toInt ∧ c.toInt ≤ 8191) ∨ (880 ≤ c.toInt ∧ c.toInt ≤ 893) ∨ (248 ≤ c.toInt ∧ c.toInt ≤ 767) ∨ (216 ≤ c.toInt ∧ c.toInt ≤ 246) ∨ (192 ≤ c.toInt ∧ c.toInt ≤ 214) then 0 else 1 := by
  unfold f3_0
  simp only [own3_28, f3_12, nar1, nar0]
  simp only [Int32.lt_iff_toInt_lt, ← Int32.toInt_inj (x := c), Int32.reduceToInt]
  generalize c.toInt = n
  repeat' split
  all_goals first
    | rfl
    | (exfalso; omega)
theorem own_agrees (c : Int32) : f1_0 c = 1 := by
  unfold f1_0 f1_16 f1_24
  rw [own2_0, own3_0]
  split
  · decide
  · decide
theorem own_plain (i0 i1 : Int32) : f0_0 i0 i1 = 1 := by
  unfold f0_0
  rw [own_agrees, own_agrees, own_agrees]; decide
set_option maxRecDepth 65536 in
set_option maxHeartbeats 4000000 in
theorem comes_1 {Post : Tables → Env → Array Value → State → Outcome → State → Prop} (hpost : ∀ tb e args s v u, (limb_1_1.after args s (.returned v) u = true ∧ limb_1_2.after args s (.returned v) u = true) → FrameEnd s (.returned v) u (Jvm.fieldLocs frame_1_writes args s ++ Jvm.arrayLocs frame_1_arrays args s ++ Jvm.staticLocs frame_1_statics s) 0 0 → Post tb e args s (.returned v) u) :
    ArmFor flags0 classFile x code maxLocals ret World_1 tables_1 room_1 Calls_1 rest_1 Pre_1 Post := by
  intro l hfl _ _ p e ha hc hk s m args below hf hA hF happ hP
  obtain ⟨hcalls, hrest, hpre⟩ := hP
  obtain ⟨-, -, -, hnamed, -, -, -, hat⟩ := (Spec.applies_iff hf).mp happ
  obtain ⟨hg, hn⟩ := and_e (Cond.before_iff.mp (show (Jvm.Cond.and given_1 narrow_1).before args s = true from hpre))
  obtain ⟨b0, hg⟩ := and_e hg
  obtain ⟨b1, hg⟩ := and_e hg
  have b2 := hg
  obtain ⟨w0, w1, rfl⟩ : ∃ w0 w1 : Value, args = #[w0, w1] := by
    have hs : args.size = 2 := by simpa [Cond.value, given_1] using b0
    obtain ⟨L⟩ := args
    match L, hs with
    | [w0, w1], _ => exact ⟨w0, w1, rfl⟩
  have hw := fun d (hd : d ∈ tables_1) => atoms_spec (ws := Jvm.Cond.code x code maxLocals ret :: tables_1) hat d (List.mem_cons_of_mem _ hd)
  obtain ⟨i0, ei0⟩ := is_v b1
  obtain rfl : w0 = (.int i0) := Option.some.inj ei0
  obtain ⟨i1, ei1⟩ := is_v b2
  obtain rfl : w1 = (.int i1) := Option.some.inj ei1
  have RA : Rep own_D s s.heap.size s.heap [] := ⟨rfl, fun i t vs e => by simp at e⟩
  have hv := own_plain i0 i1
  obtain ⟨n, o, h1, h2, h3, v, L, rfl, ⟨rfl, N, -⟩, hq⟩ := rm0 (l := l) (n0 := s.heap.size) hw [] i0 i1 tables_1 s.heap RA p e ha hc hk s m _ below hf ((Spec.applies_iff_loose hf).mp happ).1 ⟨rfl, State.Warmed39.refl s, rfl⟩ trivial
  rw [hv] at hq h3
  refine ⟨n, _, h1, h2, h3, hpost _ _ _ _ _ _ ⟨Cond.after_iff.mpr rfl, Cond.after_iff.mpr (eq_i res_at (Term.int_eval (1)) rfl)⟩ ⟨hq.1, hq.2.1, (hq.2.2.sift fun y hy => Or.inr (N y hy)).mono (by decide) (by decide)⟩⟩
theorem main_1_1 : Claimed_1_1 := comes_1 fun _ _ _ _ _ _ h hF => ⟨h.1, hF⟩
theorem main_1_2 : Claimed_1_2 := comes_1 fun _ _ _ _ _ _ h hF => ⟨h.2, hF⟩
end Jvm.Pilot.@@N@@
namespace Jvm.Pilot.@@N@@
open Jvm Jvm.ClassFile Sem Op Lib Jvm.Free Jvm.Stand Jvm.Pilot.@@N@@.Jvm.D
/-! MADE BY PROGRAM (witnessworld.py) out of the Statement's table words and the real class files: 9 classes; the members and pool entries that the words name. The judged class is class 1, her method 3. -/
namespace start1
open Jvm.ClassFile
def u (s : String) : CpInfo := .utf8 (stringToUtf16 s)
/-- a pool by its gaps: so many unusable entries, then the entry; so many at the end -/
def gap : Nat → List CpInfo → List CpInfo
  | 0, r => r
  | n + 1, r => .unusable :: gap n r
def poolList (es : List (Nat × CpInfo)) (last : Nat) : List CpInfo := es.foldr (fun e r => gap e.1 (e.2 :: r)) (gap last [])
def pool (es : List (Nat × CpInfo)) (last : Nat) : Array CpInfo := ⟨poolList es last⟩
def fileOf (pool : Array CpInfo) (this : Nat) (attrs : Array Attribute := #[]) (ms : Array MethodInfo := #[]) (fl : Nat := 33) (sup : Nat := 0) (ifs : Array Nat := #[]) (fds : Array FieldInfo := #[]) : ClassFile where
  minorVersion := 0
  majorVersion := 65
  constantPool := pool
  accessFlags := fl
  thisClass := this
  superClass := sup
  interfaces := ifs
  fields := fds
  methods := ms
  attributes := attrs
def plain (name : String) (sup : Option ClassId) : Class where
  name := name
  kind := .ordinary
  loader := none
  accessFlags := 33
  super := sup
  interfaces := #[]
  cf := none
  fields := #[]
  methods := #[]
  instanceTypes := #[]
  staticTypes := #[]
  resolved := #[]
  callSites := []
  init := .initialized
  statics := none
  mirror := none

def pool0 : Array CpInfo := pool [(5, u "<init>"), (0, u "()V"), (1, .class_ 10), (1, u "java/lang/Object")] 113

def k0m0 : Method := { name := "<init>", desc := "()V", sig := { parameters := [], returnType := none }, accessFlags := 1, code := none }
/-- java/lang/Object -/
def k0 : Class := { plain "java/lang/Object" none with
  accessFlags := 33
  interfaces := #[]
  cf := some (fileOf pool0 8 #[] #[{ accessFlags := 1, nameIndex := 5, descriptorIndex := 6, attributes := #[] }] 33 0 #[] #[])
  fields := #[]
  methods := #[k0m0]
  instanceTypes := #[]
  staticTypes := #[]
  resolved := Array.replicate 124 none
  statics := none }

def pool1 : Array CpInfo := pool [(2, .class_ 4), (1, u "java/lang/Object"), (0, u "<init>"), (0, u "()V"), (0, .integer 983039), (0, .integer 55296), (0, .integer 63743), (0, .integer 64976), (0, .integer 65007), (0, .integer 65534), (0, .integer 65535), (0, .methodref 15 16), (0, .class_ 17), (0, .nameAndType 18 19), (0, u "com/example/homomorphism/homomorphism/XmlChars"), (0, u "isNameStart"), (0, u "(I)Z"), (0, .methodref 21 22), (0, .class_ 23), (0, .nameAndType 24 19), (0, u "com/example/homomorphism/homomorphism/XmlCharsIsNameStartPinLaw"), (0, u "excluded"), (0, .integer 1048575), (0, .methodref 21 27), (0, .nameAndType 28 19), (0, u "agrees"), (3, u "law"), (0, u "(II)Z")] 2

def k1m0 : Method := { name := "<init>", desc := "()V", sig := { parameters := [], returnType := none }, accessFlags := 2, code := none }
def k1c1 : Code := { maxStack := 2, maxLocals := 1, code := method_2_code, exceptionTable := #[], attributes := #[] }
def k1m1 : Method := { name := "excluded", desc := "(I)Z", sig := { parameters := [.int], returnType := some .boolean }, accessFlags := 10, code := some k1c1 }
def k1c2 : Code := { maxStack := 2, maxLocals := 1, code := method_3_code, exceptionTable := #[], attributes := #[] }
def k1m2 : Method := { name := "agrees", desc := "(I)Z", sig := { parameters := [.int], returnType := some .boolean }, accessFlags := 10, code := some k1c2 }
def k1c3 : Code := { maxStack := 2, maxLocals := 4, code := code, exceptionTable := #[], attributes := #[] }
def k1m3 : Method := { name := "law", desc := "(II)Z", sig := { parameters := [.int, .int], returnType := some .boolean }, accessFlags := 9, code := some k1c3 }
/-- com/example/homomorphism/homomorphism/XmlCharsIsNameStartPinLaw -/
def k1 : Class := { plain "com/example/homomorphism/homomorphism/XmlCharsIsNameStartPinLaw" (some 0) with
  accessFlags := 49
  interfaces := #[]
  cf := some (fileOf pool1 21 #[] #[{ accessFlags := 2, nameIndex := 5, descriptorIndex := 6, attributes := #[] }, { accessFlags := 10, nameIndex := 24, descriptorIndex := 19, attributes := #[] }, { accessFlags := 10, nameIndex := 28, descriptorIndex := 19, attributes := #[] }, { accessFlags := 9, nameIndex := 32, descriptorIndex := 33, attributes := #[] }] 49 2 #[] #[])
  fields := #[]
  methods := #[k1m0, k1m1, k1m2, k1m3]
  instanceTypes := #[]
  staticTypes := #[]
  resolved := Array.replicate 36 none
  statics := none }

def pool2 : Array CpInfo := pool [(4, .class_ 6), (1, u "java/lang/Object"), (0, u "<init>"), (0, u "()V"), (0, .integer 55295), (0, .integer 63744), (0, .integer 64975), (0, .integer 65008), (0, .integer 65533), (0, .integer 65536), (0, .integer 983039), (1, .class_ 19), (1, u "com/example/homomorphism/homomorphism/XmlChars"), (0, u "isNameStart"), (0, u "(I)Z"), (122, u "DEFAULT_DECLARATION"), (0, u "Ljava/lang/String;")] 40

def k2m0 : Method := { name := "<init>", desc := "()V", sig := { parameters := [], returnType := none }, accessFlags := 2, code := none }
def k2c1 : Code := { maxStack := 2, maxLocals := 1, code := prog_13_method_2_code, exceptionTable := #[], attributes := #[] }
def k2m1 : Method := { name := "isNameStart", desc := "(I)Z", sig := { parameters := [.int], returnType := some .boolean }, accessFlags := 9, code := some k2c1 }
/-- com/example/homomorphism/homomorphism/XmlChars -/
def k2 : Class := { plain "com/example/homomorphism/homomorphism/XmlChars" (some 0) with
  accessFlags := 49
  interfaces := #[]
  cf := some (fileOf pool2 17 #[] #[{ accessFlags := 2, nameIndex := 7, descriptorIndex := 8, attributes := #[] }, { accessFlags := 9, nameIndex := 20, descriptorIndex := 21, attributes := #[] }] 49 4 #[] #[{ accessFlags := 26, nameIndex := 144, descriptorIndex := 145, attributes := #[] }])
  fields := #[{ name := "DEFAULT_DECLARATION", type := (.object "java/lang/String"), accessFlags := 26, slot := 0, constantValue := 0 }]
  methods := #[k2m0, k2m1]
  instanceTypes := #[]
  staticTypes := #[(.object "java/lang/String")]
  resolved := Array.replicate 186 none
  statics := none }

def pool3 : Array CpInfo := pool [(1, u "java/lang/Cloneable"), (0, .class_ 1), (0, u "java/lang/Object"), (0, .class_ 3)] 3

/-- java/lang/Cloneable -/
def k3 : Class := { plain "java/lang/Cloneable" (some 0) with
  accessFlags := 1537
  interfaces := #[]
  cf := some (fileOf pool3 2 #[] #[] 1537 4 #[] #[])
  fields := #[]
  methods := #[]
  instanceTypes := #[]
  staticTypes := #[]
  resolved := Array.replicate 8 none
  statics := none }

def pool4 : Array CpInfo := pool [(1, u "java/io/Serializable"), (0, .class_ 1), (0, u "java/lang/Object"), (0, .class_ 3)] 3

/-- java/io/Serializable -/
def k4 : Class := { plain "java/io/Serializable" (some 0) with
  accessFlags := 1537
  interfaces := #[]
  cf := some (fileOf pool4 2 #[] #[] 1537 4 #[] #[])
  fields := #[]
  methods := #[]
  instanceTypes := #[]
  staticTypes := #[]
  resolved := Array.replicate 8 none
  statics := none }

/-- the primitive byte -/
def k5 : Class := { plain "byte" none with kind := .primitive 'B', accessFlags := 0x411 }
/-- [B -/
def k6 : Class := { plain "[B" (some 0) with kind := .array 5 .byte, interfaces := #[3, 4], accessFlags := 1041 }

/-- the primitive int -/
def k7 : Class := { plain "int" none with kind := .primitive 'I', accessFlags := 0x411 }
/-- [I -/
def k8 : Class := { plain "[I" (some 0) with kind := .array 7 .int, interfaces := #[3, 4], accessFlags := 1041 }

def heap : Heap := #[]
def classes : Array Class := #[k0, k1, k2, k3, k4, k5, k6, k7, k8]
def interned : List (Array UInt16 × Addr) := []
def slotsUsed : Nat := 0
def theMethod : MethodId := ⟨1, 3⟩
def args0 : Array Value := #[.int 5, .int 5]
def aboutOver (below : List Frame) : State where
  vm := { classes := classes, interned := interned.toArray }
  heap := heap
  slotsUsed := slotsUsed
  threads := #[{ frames := .invoking theMethod args0 :: below }]
def below0 : List Frame := [.native { method := ⟨0, 0⟩, args := #[] }]
def about1 : State := aboutOver below0
def p0 : Program := .bare "" "" ""
def e0 : Env := launch0.env 0 0 0
theorem w_frames : about1.frames = Frame.invoking theMethod args0 :: below0 := rfl
set_option maxRecDepth 65536 in
theorem w_args : argsFit about1.vm theMethod args0 = true := by decide +kernel
set_option maxRecDepth 65536 in
theorem w_heap : heapFits about1 = true := by decide +kernel
set_option maxRecDepth 65536 in
theorem w_runnable : about1.curStatus? = some .runnable := by decide +kernel
set_option maxRecDepth 65536 in
theorem w_alone : about1.alone = true := by decide +kernel
set_option maxRecDepth 65536 in
theorem w_named : about1.methodNamed? x = some theMethod := by decide +kernel
set_option maxRecDepth 65536 in
theorem w_hears : about1.hears theMethod below0 = true := by decide +kernel
set_option maxRecDepth 65536 in
theorem w_ripe : about1.ripe theMethod args0 below0 = true := by decide +kernel
theorem w_running : about1.status = .running := rfl
set_option maxRecDepth 65536 in
theorem w_room : about1.hasRoom e0.platform room_1 = true :=
  launch0.hasRoom_least _ room_1 (by decide +kernel) (by decide +kernel) (by decide +kernel) (by decide +kernel) (by decide +kernel) (by decide +kernel)
theorem allAtoms_all (ts : List Jvm.Cond) (a : Array Jvm.Value) (st : Jvm.State) : (allAtoms ts).before a st = ts.all (fun c => c.before a st) := by
  induction ts with
  | nil => rfl
  | cons c t ih =>
    show (Jvm.Cond.and c (allAtoms t)).before a st = _
    rw [Jvm.Cond.before_and, ih, List.all_cons]
def words1 : List Jvm.Cond := Jvm.Cond.code x code maxLocals ret :: tables_1
/-- a 'code' word, met by the world's own term for the bytes: nothing is compared byte by byte -/
theorem code_word {y : MethodName} {bytes : ByteArray} {mx : Nat} {rt : Option FieldType} {a : Array Value} {s : State} {m : MethodId} {meth : Method} {c : Code} (h1 : s.methodNamed? y = some m) (h2 : s.vm.method? m = some meth) (h3 : meth.code = some c) (h4 : c.code = bytes)
    (h5 : (c.maxLocals == mx && c.exceptionTable.isEmpty && decide (c.maxStack ≤ mostOperands) && decide (meth.sig.returnType = rt) && !meth.locks && decide (parseMethodDescriptor y.desc = some meth.sig)) = true) : (Jvm.Cond.code y bytes mx rt).before a s = true := by
  simp only [Bool.and_eq_true, beq_iff_eq, Bool.not_eq_true', decide_eq_true_eq] at h5
  obtain ⟨⟨⟨⟨⟨g1, g2⟩, g3⟩, g4⟩, g5⟩, g6⟩ := h5
  simp [Cond.before, Cond.holds, Cond.value, h1, h2, h3, h4, g1, g2, g3, g4, g5, g6]
def isCode : Jvm.Cond → Bool
  | .code _ _ _ _ => true
  | _ => false
theorem all_split {L : List Jvm.Cond} {P : Jvm.Cond → Bool} (h1 : L.all (fun c => isCode c || P c) = true) (h2 : ∀ c ∈ L.filter isCode, P c = true) : L.all P = true := by
  refine List.all_eq_true.mpr fun c hc => ?_
  have h := List.all_eq_true.mp h1 c hc
  rcases Bool.eq_false_or_eq_true (isCode c) with hi | hi
  · exact h2 c (List.mem_filter.mpr ⟨hc, hi⟩)
  · simpa [hi] using h
set_option maxRecDepth 65536 in
theorem w_c0 : (Jvm.Cond.code x code maxLocals ret).before args0 about1 = true := code_word (m := ⟨1, 3⟩) (meth := k1m3) (c := k1c3) (by decide +kernel) rfl rfl rfl (by decide +kernel)
set_option maxRecDepth 65536 in
theorem w_c1 : (Jvm.Cond.code ({ cls := "com/example/homomorphism/homomorphism/XmlCharsIsNameStartPinLaw", name := "agrees", desc := "(I)Z" } : Jvm.MethodName) method_3_code (1 : Nat) (Option.some Jvm.ClassFile.FieldType.boolean)).before args0 about1 = true := code_word (m := ⟨1, 2⟩) (meth := k1m2) (c := k1c2) (by decide +kernel) rfl rfl rfl (by decide +kernel)
set_option maxRecDepth 65536 in
theorem w_c2 : (Jvm.Cond.code ({ cls := "com/example/homomorphism/homomorphism/XmlChars", name := "isNameStart", desc := "(I)Z" } : Jvm.MethodName) prog_13_method_2_code (1 : Nat) (Option.some Jvm.ClassFile.FieldType.boolean)).before args0 about1 = true := code_word (m := ⟨2, 1⟩) (meth := k2m1) (c := k2c1) (by decide +kernel) rfl rfl rfl (by decide +kernel)
set_option maxRecDepth 65536 in
theorem w_c3 : (Jvm.Cond.code ({ cls := "com/example/homomorphism/homomorphism/XmlCharsIsNameStartPinLaw", name := "excluded", desc := "(I)Z" } : Jvm.MethodName) method_2_code (1 : Nat) (Option.some Jvm.ClassFile.FieldType.boolean)).before args0 about1 = true := code_word (m := ⟨1, 1⟩) (meth := k1m1) (c := k1c1) (by decide +kernel) rfl rfl rfl (by decide +kernel)
def codes1 : List Jvm.Cond := [Jvm.Cond.code x code maxLocals ret, Jvm.Cond.code ({ cls := "com/example/homomorphism/homomorphism/XmlCharsIsNameStartPinLaw", name := "agrees", desc := "(I)Z" } : Jvm.MethodName) method_3_code (1 : Nat) (Option.some Jvm.ClassFile.FieldType.boolean), Jvm.Cond.code ({ cls := "com/example/homomorphism/homomorphism/XmlChars", name := "isNameStart", desc := "(I)Z" } : Jvm.MethodName) prog_13_method_2_code (1 : Nat) (Option.some Jvm.ClassFile.FieldType.boolean), Jvm.Cond.code ({ cls := "com/example/homomorphism/homomorphism/XmlCharsIsNameStartPinLaw", name := "excluded", desc := "(I)Z" } : Jvm.MethodName) method_2_code (1 : Nat) (Option.some Jvm.ClassFile.FieldType.boolean)]
set_option maxRecDepth 65536 in
theorem codes_eq : words1.filter isCode = codes1 := rfl
theorem w_codes : ∀ c ∈ words1.filter isCode, c.before args0 about1 = true := by
  rw [codes_eq]
  intro c hc
  simp only [codes1, List.mem_cons, List.not_mem_nil, or_false] at hc
  rcases hc with rfl | rfl | rfl | rfl
  · exact w_c0
  · exact w_c1
  · exact w_c2
  · exact w_c3
set_option maxRecDepth 65536 in
theorem w_t1 : (words1.take 24).all (fun c => isCode c || c.before args0 about1) = true := by decide +kernel
set_option maxRecDepth 65536 in
theorem w_t2 : (words1.drop 24).all (fun c => isCode c || c.before args0 about1) = true := by decide +kernel
theorem w_tables : (allAtoms (Jvm.Cond.code x code maxLocals ret :: tables_1)).before args0 about1 = true := by
  rw [allAtoms_all]
  show words1.all (fun c => c.before args0 about1) = true
  refine all_split ?_ w_codes
  rw [← List.take_append_drop 24 words1, List.all_append, w_t1, w_t2]
  rfl
set_option maxRecDepth 65536 in
theorem w_case : (Jvm.Cond.and given_1 narrow_1).before args0 about1 = true := by decide +kernel
theorem w_applies : (headSpec (Jvm.Cond.code x code maxLocals ret :: tables_1) room_1).applies x e0.platform about1 = true :=
  (Spec.applies_iff w_frames).mpr ⟨w_running, w_runnable, w_alone, w_named, w_hears, w_ripe, w_room, w_tables⟩
theorem atStart : AtStart classFile x code maxLocals ret World_1 tables_1 room_1 Calls_1 rest_1 Pre_1 launch0 p0 e0 about1 theMethod args0 below0 :=
  ⟨lists_1, trivial, launch0.admits_env _ _ _, launch0.least_env, fairChoices_fair.cas, fairChoices_fair.clock, w_frames, w_args, w_heap, w_applies, trivial, trivial, w_case⟩
end start1
theorem witness_1 : WitnessClaimed_1 := ⟨start1.p0, start1.e0, start1.about1, start1.theMethod, start1.args0, start1.below0, start1.atStart⟩
end Jvm.Pilot.@@N@@
