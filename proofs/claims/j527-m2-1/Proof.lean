import JvmDerived
import JvmDerived.Pilot.@@N@@Statement
import JvmDerived.Pilot.@@N@@Code
set_option linter.unusedVariables false
set_option linter.unusedSimpArgs false
namespace Jvm.OwnKit
open Sem ClassFile Op Lib Jvm.Stand Jvm.Free Jvm.LawKit Jvm.RoadKit
/-! my own layer: an abstract heap of the objects and arrays that the law makes, and a run that goes on to its end -/
abbrev AH : Type := List (Nat × List Value)
abbrev Dic : Type := Nat → String × List (String × String × String)
def lf (n0 : Nat) : Value → Value
  | .ref i => .ref (n0 + i)
  | v => v
def aty : Nat → FieldType
  | 0 => .int
  | 1 => .char
  | 2 => .byte
  | 3 => .long
  | 4 => .boolean
  | _ => .short
def asI : Option Value → Option Int32
  | some (.int x) => some x
  | _ => none
def asJ : Option Value → Option Int64
  | some (.long x) => some x
  | _ => none
def asR : Option Value → Option Nat
  | some (.ref x) => some x
  | _ => none
theorem asI_s {o : Option Value} {x : Int32} (h : asI o = some x) : o = some (.int x) := by
  unfold asI at h; split at h <;> simp_all
theorem asJ_s {o : Option Value} {x : Int64} (h : asJ o = some x) : o = some (.long x) := by
  unfold asJ at h; split at h <;> simp_all
theorem asR_s {o : Option Value} {x : Nat} (h : asR o = some x) : o = some (.ref x) := by
  unfold asR at h; split at h <;> simp_all
/-- a field, a component: read, written -/
def h_fget (A : AH) (t a k : Nat) : Option Value := match A[a]? with
  | some (t', vs) => if t' = t then vs[k]? else none
  | none => none
def h_fset (A : AH) (t a k : Nat) (v : Value) : Option AH := match A[a]? with
  | some (t', vs) => if t' = t ∧ k < vs.length then some (A.set a (t', vs.set k v)) else none
  | none => none
def h_aget (A : AH) (t a : Nat) (j : Int32) : Option Value := if j < 0 then none else h_fget A t a j.toNatClampNeg
def h_aset (A : AH) (t a : Nat) (j : Int32) (v : Value) : Option AH := if j < 0 then none else h_fset A t a j.toNatClampNeg v
def h_alen (A : AH) (t a : Nat) : Option Int32 := match A[a]? with
  | some (t', vs) => if t' = t then some vs.length.toInt32 else none
  | none => none
def h_onew (A : AH) (t : Nat) (ds : List Value) : Option (Nat × AH) := some (A.length, A ++ [(t, ds)])
def h_anew (A : AH) (t cap : Nat) (n : Int32) (d : Value) : Option (Nat × AH) := if n < 0 ∨ cap < n.toNatClampNeg then none else some (A.length, A ++ [(t, List.replicate n.toNatClampNeg d)])
def h_isA (A : AH) (t a : Nat) : Option Unit := match A[a]? with
  | some (t', _) => if t' = t then some () else none
  | none => none
/-- what the heap holds of them -/
def OKa (Z : State) (h : Heap) (a : Addr) (ty : FieldType) (vs : List Value) : Prop := ∃ cl : Cell, Arr Z h a cl ty ∧ cl.slots.toList = vs ∧ vs.length < 2 ^ 31 ∧ ∀ v ∈ vs, fits ty v = true
def OKo (Z : State) (h : Heap) (a : Addr) (C : String) (L : List (String × String × String)) (vs : List Value) : Prop := Exa Z h a C ∧ ∀ (k : Nat) (O n d : String) (v : Value), L[k]? = some (O, n, d) → vs[k]? = some v → Fld Z h a O n d v
def OKx (D : Dic) (Z : State) (h : Heap) (a : Addr) (t : Nat) (vs : List Value) : Prop := (t < 10 → OKa Z h a (aty t) vs) ∧ (10 ≤ t → OKo Z h a (D t).1 (D t).2 vs)
def Rep (D : Dic) (Z : State) (n0 : Nat) (h : Heap) (A : AH) : Prop := h.size = n0 + A.length ∧ ∀ (i t : Nat) (vs : List Value), A[i]? = some (t, vs) → OKx D Z h (n0 + i) t (vs.map (lf n0))
def Sep (Z : State) (L : List (String × String × String)) : Prop := ∀ (k k' : Nat) (O n d O' n' d' : String), L[k]? = some (O, n, d) → L[k']? = some (O', n', d') → k ≠ k' → Jvm.RoadKit.slotOf Z O n d ≠ Jvm.RoadKit.slotOf Z O' n' d'
theorem Sep.nil {Z : State} : Sep Z [] := fun k k' O n d O' n' d' h => by simp at h
theorem sep_of {Z : State} {a0 : Array Value} {C : String} {L : List (String × String × String)} (hl : ∀ x ∈ L, Laid Z a0 C x.1 x.2.1 x.2.2 ∧ (parseFieldDescriptor x.2.2).isSome = true) (hn : (L.map fun x => x.2.1).Nodup) : Sep Z L := by
  intro k k' O n d O' n' d' h h' ne
  obtain ⟨l1, p1⟩ := hl _ (List.mem_of_getElem? h)
  obtain ⟨l2, p2⟩ := hl _ (List.mem_of_getElem? h')
  obtain ⟨t1, e1⟩ := Option.isSome_iff_exists.mp p1
  obtain ⟨t2, e2⟩ := Option.isSome_iff_exists.mp p2
  refine slot_ne l1 l2 ?_ e1 e2
  intro q
  obtain ⟨b1, g1⟩ := List.getElem?_eq_some_iff.mp h
  obtain ⟨b2, g2⟩ := List.getElem?_eq_some_iff.mp h'
  refine ne ((List.getElem_inj (xs := L.map fun x => x.2.1) (h₀ := by simpa using b1) (h₁ := by simpa using b2) hn).mp ?_)
  simp only [List.getElem_map, g1, g2]; exact q
section Facts
variable {D : Dic} {Z : State} {n0 : Nat} {h h' : Heap} {A A' : AH} {t a k : Nat} {v : Value}
theorem fget_s (hg : h_fget A t a k = some v) : ∃ vs, A[a]? = some (t, vs) ∧ vs[k]? = some v := by
  unfold h_fget at hg; split at hg
  · rename_i t' vs e
    split at hg
    · rename_i q; subst q; exact ⟨vs, e, hg⟩
    · cases hg
  · cases hg
theorem fset_s (hg : h_fset A t a k v = some A') : ∃ vs, A[a]? = some (t, vs) ∧ k < vs.length ∧ A' = A.set a (t, vs.set k v) := by
  unfold h_fset at hg; split at hg
  · rename_i t' vs e
    split at hg
    · rename_i q; obtain ⟨rfl, q⟩ := q; exact ⟨vs, e, q, (Option.some.inj hg).symm⟩
    · cases hg
  · cases hg
theorem aget_s {j : Int32} (hg : h_aget A t a j = some v) : ¬ j < 0 ∧ h_fget A t a j.toNatClampNeg = some v := by
  unfold h_aget at hg; split at hg
  · cases hg
  · exact ⟨by assumption, hg⟩
theorem aset_s {j : Int32} (hg : h_aset A t a j v = some A') : ¬ j < 0 ∧ h_fset A t a j.toNatClampNeg v = some A' := by
  unfold h_aset at hg; split at hg
  · cases hg
  · exact ⟨by assumption, hg⟩
theorem isA_s {u : Unit} (hg : h_isA A t a = some u) : ∃ vs, A[a]? = some (t, vs) := by
  unfold h_isA at hg; split at hg
  · rename_i t' vs e
    split at hg
    · rename_i q; subst q; exact ⟨vs, e⟩
    · cases hg
  · cases hg
theorem Rep.exa (RA : Rep D Z n0 h A) (ht : 10 ≤ t) {vs : List Value} (hA : A[a]? = some (t, vs)) : Exa Z h (n0 + a) (D t).1 := ((RA.2 a t vs hA).2 ht).1
theorem Rep.fld (RA : Rep D Z n0 h A) (ht : 10 ≤ t) (hg : h_fget A t a k = some v) {O n d : String} (hk : (D t).2[k]? = some (O, n, d)) : Fld Z h (n0 + a) O n d (lf n0 v) := by
  obtain ⟨vs, e, q⟩ := fget_s hg
  exact ((RA.2 a t vs e).2 ht).2 k O n d _ hk (by simp [q])
theorem Rep.arr (RA : Rep D Z n0 h A) (ht : t < 10) {vs : List Value} (hA : A[a]? = some (t, vs)) : ∃ cl : Cell, Arr Z h (n0 + a) cl (aty t) ∧ cl.slots.toList = vs.map (lf n0) ∧ vs.length < 2 ^ 31 ∧ ∀ v ∈ vs.map (lf n0), fits (aty t) v = true := by
  obtain ⟨cl, h1, h2, h3, h4⟩ := (RA.2 a t vs hA).1 ht
  exact ⟨cl, h1, h2, by simpa using h3, h4⟩
theorem Rep.at (RA : Rep D Z n0 h A) (ht : t < 10) {j : Int32} (hg : h_aget A t a j = some v) : ∃ cl : Cell, Arr Z h (n0 + a) cl (aty t) ∧ ¬ (j < 0 ∨ cl.slots.size ≤ j.toNatClampNeg) ∧ cl.slots[j.toNatClampNeg]? = some (lf n0 v) := by
  obtain ⟨hj, hg⟩ := aget_s hg
  obtain ⟨vs, e, q⟩ := fget_s hg
  obtain ⟨cl, h1, h2, -⟩ := RA.arr ht e
  have h4 : cl.slots[j.toNatClampNeg]? = some (lf n0 v) := by rw [← Array.getElem?_toList, h2]; simp [q]
  refine ⟨cl, h1, ?_, h4⟩
  rintro (c | c)
  · exact hj c
  · exact absurd (Array.getElem?_eq_some_iff.mp h4).1 (Nat.not_lt.mpr c)
theorem OKx.other {sl : Nat} {w : Value} {b : Addr} {vs : List Value} (X : OKx D Z h b t vs) (W : Wr h h' a sl w) (ne : b ≠ a) : OKx D Z h' b t vs := by
  refine ⟨fun q => ?_, fun q => ?_⟩
  · obtain ⟨cl, h1, h2⟩ := X.1 q; exact ⟨cl, h1.other W ne, h2⟩
  · obtain ⟨h1, h2⟩ := X.2 q; exact ⟨h1.wr W, fun k O n d v e1 e2 => (h2 k O n d v e1 e2).other W (Or.inl ne)⟩
theorem Rep.set (RA : Rep D Z n0 h A) {sl : Nat} {w : Value} {vs : List Value} (hl : a < A.length) (W : Wr h h' (n0 + a) sl w) (hN : OKx D Z h' (n0 + a) t (vs.map (lf n0))) : Rep D Z n0 h' (A.set a (t, vs)) := by
  refine ⟨by rw [W.size, RA.1, List.length_set], fun i t' vs' e => ?_⟩
  by_cases q : a = i
  · subst q
    rw [List.getElem?_set_self hl] at e
    obtain ⟨rfl, rfl⟩ := Prod.mk.inj (Option.some.inj e); exact hN
  · rw [List.getElem?_set_ne q] at e
    exact (RA.2 i t' vs' e).other W (fun z => q (Nat.add_left_cancel z).symm)
theorem Rep.wrF (sep : Sep Z (D t).2) (RA : Rep D Z n0 h A) (ht : 10 ≤ t) (hp : h_fset A t a k v = some A') {O n d : String} (hk : (D t).2[k]? = some (O, n, d)) (W : Wr h h' (n0 + a) (Jvm.RoadKit.slotOf Z O n d) (lf n0 v)) : Rep D Z n0 h' A' := by
  obtain ⟨vs, e, q, rfl⟩ := fset_s hp
  refine RA.set (List.getElem?_eq_some_iff.mp e).1 W ⟨fun z => absurd ht (by omega), fun _ => ?_⟩
  obtain ⟨h1, h2⟩ := (RA.2 a t vs e).2 ht
  refine ⟨h1.wr W, fun k' O' n' d' v' e1 e2 => ?_⟩
  rw [List.map_set] at e2
  by_cases c : k = k'
  · subst c
    rw [List.getElem?_set_self (by simpa using q)] at e2
    cases hk.symm.trans e1
    cases e2
    exact (h2 k O n d _ hk (List.getElem?_eq_getElem (by simpa using q))).same W
  · rw [List.getElem?_set_ne c] at e2
    exact (h2 k' O' n' d' v' e1 e2).other W (Or.inr (sep k' k O' n' d' O n d e1 hk (Ne.symm c)))
theorem Rep.wrA (RA : Rep D Z n0 h A) (ht : t < 10) {j : Int32} (hp : h_aset A t a j v = some A') (hft : fits (aty t) (lf n0 v) = true) (W : Wr h h' (n0 + a) j.toNatClampNeg (lf n0 v)) : Rep D Z n0 h' A' := by
  obtain ⟨-, hp⟩ := aset_s hp
  obtain ⟨vs, e, q, rfl⟩ := fset_s hp
  refine RA.set (List.getElem?_eq_some_iff.mp e).1 W ⟨fun z => ?_, fun z => absurd ht (by omega)⟩
  obtain ⟨cl, h1, h2, h3, h4⟩ := RA.arr ht e
  refine ⟨_, h1.same W, ?_, by simpa using h3, fun u hu => ?_⟩
  · show (cl.slots.setIfInBounds _ _).toList = _
    rw [Array.toList_setIfInBounds, h2, List.map_set]
  · rw [List.map_set] at hu
    rcases List.mem_or_eq_of_mem_set hu with q | q
    · exact h4 u q
    · rw [q]; exact hft
theorem Rep.into (RA : Rep D Z n0 h A) (ht : t < 10) {j : Int32} (hp : h_aset A t a j v = some A') : ∃ cl : Cell, Arr Z h (n0 + a) cl (aty t) ∧ ¬ (j < 0 ∨ cl.slots.size ≤ j.toNatClampNeg) := by
  obtain ⟨hj, hp⟩ := aset_s hp
  obtain ⟨vs, e, q, rfl⟩ := fset_s hp
  obtain ⟨cl, h1, h2, -⟩ := RA.arr ht e
  refine ⟨cl, h1, ?_⟩
  have : cl.slots.size = vs.length := by rw [← Array.length_toList, h2]; simp
  rintro (c | c)
  · exact hj c
  · omega
theorem OKx.ext {b : Addr} {vs : List Value} (X : OKx D Z h b t vs) (E : Ext h h') : OKx D Z h' b t vs := by
  refine ⟨fun q => ?_, fun q => ?_⟩
  · obtain ⟨cl, h1, h2⟩ := X.1 q; exact ⟨cl, h1.ext E, h2⟩
  · obtain ⟨h1, h2⟩ := X.2 q; exact ⟨h1.ext E, fun k O n d v e1 e2 => (h2 k O n d v e1 e2).ext E⟩
theorem ext_push (h : Heap) (cl : Cell) : Ext h (h.push cl) := ⟨by simp, fun a c e => by rw [Array.getElem?_push_lt (Array.getElem?_eq_some_iff.mp e).1]; exact (Array.getElem?_eq_getElem _).symm.trans e⟩
theorem Rep.push (RA : Rep D Z n0 h A) {cl : Cell} {vs : List Value} (hN : OKx D Z (h.push cl) h.size t (vs.map (lf n0))) : Rep D Z n0 (h.push cl) (A ++ [(t, vs)]) := by
  refine ⟨by rw [Array.size_push, RA.1, List.length_append]; rfl, fun i t' vs' e => ?_⟩
  by_cases q : i < A.length
  · rw [List.getElem?_append_left q] at e
    exact (RA.2 i t' vs' e).ext (ext_push h cl)
  · rw [List.getElem?_append_right (Nat.le_of_not_lt q)] at e
    have e0 : i - A.length = 0 := by
      have := (List.getElem?_eq_some_iff.mp e).1; simp at this; omega
    rw [e0] at e
    obtain ⟨rfl, rfl⟩ := Prod.mk.inj (Option.some.inj e)
    have : i = A.length := by omega
    have e2 : n0 + i = h.size := by rw [RA.1, this]
    rw [e2]; exact hN
end Facts
/-! reading and writing, in plain words -/
theorem nar1 : nar .boolean (1 : Int32) = 1 := by decide
theorem nar0 : nar .boolean (0 : Int32) = 0 := by decide
theorem nclamp (j : Int32) : j.toNatClampNeg = j.toInt.toNat := rfl
theorem nneg {j : Int32} : ¬ j < 0 ↔ 0 ≤ j.toInt := by rw [Int32.lt_iff_toInt_lt]; show ¬ _ < (0 : Int) ↔ _; omega
theorem aset_ok {A : AH} {t a : Nat} {vs : List Value} {j : Int32} {v : Value} (hA : A[a]? = some (t, vs)) (h0 : 0 ≤ j.toInt) (h1 : j.toInt < vs.length) : h_aset A t a j v = some (A.set a (t, vs.set j.toInt.toNat v)) := by
  unfold h_aset; rw [if_neg (nneg.mpr h0)]; unfold h_fset; rw [hA]; simp only [nclamp]
  have : j.toInt.toNat < vs.length := by omega
  rw [if_pos ⟨trivial, this⟩]
theorem aget_ok {A : AH} {t a : Nat} {vs : List Value} {j : Int32} (hA : A[a]? = some (t, vs)) (h0 : 0 ≤ j.toInt) : h_aget A t a j = vs[j.toInt.toNat]? := by
  unfold h_aget; rw [if_neg (nneg.mpr h0)]; unfold h_fget; rw [hA]; simp only [nclamp, if_true]
theorem anew_ok {A : AH} {t cap : Nat} {n : Int32} {d : Value} (h0 : 0 ≤ n.toInt) (h1 : n.toInt ≤ cap) : h_anew A t cap n d = some (A.length, A ++ [(t, List.replicate n.toInt.toNat d)]) := by
  unfold h_anew; rw [nclamp, if_neg (by rintro (c | c); exact nneg.mpr h0 c; omega)]
theorem aset1 {t : Nat} {vs : List Value} {j : Int32} {v : Value} (h0 : 0 ≤ j.toInt) (h1 : j.toInt < vs.length) : h_aset [(t, vs)] t 0 j v = some [(t, vs.set j.toInt.toNat v)] := aset_ok rfl h0 h1
theorem aget1 {t : Nat} {vs : List Value} {j : Int32} (h0 : 0 ≤ j.toInt) : h_aget [(t, vs)] t 0 j = vs[j.toInt.toNat]? := aget_ok rfl h0
/-! ### a run that goes on to its end -/
def Go (p : Program) (e : Env) (below : List Frame) (S : State) (G : Outcome → State → Prop) : Prop := ∃ t o, Steps p.tables e below S t ∧ t.status = .running ∧ Ended t below o ∧ G o t
def QR (D : Dic) (Z : State) (n0 : Nat) (r : Option Value) (A : AH) (v : Option Value) (h : Heap) (L : List Loc) : Prop := v = r ∧ Fr n0 L ∧ Rep D Z n0 h A
def Fini (D : Dic) (Z : State) (n0 : Nat) (s : State) (R : Room) (r : Option Value) (A : AH) : Outcome → State → Prop := fun o t => ∃ v L, o = .returned v ∧ QR D Z n0 r A v t.heap L ∧ FrameEnd s o t L R.cells R.slots
def On (p : Program) (l : Launch) (e : Env) (R : Room) (s : State) (m : MethodId) (args : Array Value) (below : List Frame) (meth : Method) (c : Code) (D : Dic) (Z : State) (n0 : Nat) (T : State) (A : AH) (cells slots : Nat) : Prop :=
  ∃ locs, Stand p l e R s m args below meth c T locs cells slots ∧ Fr n0 locs ∧ Rep D Z n0 T.heap A
def Cx (p : Program) (l : Launch) (e : Env) (R : Room) (s : State) (m : MethodId) (meth : Method) (c : Code) (Z : State) (a0 : Array Value) (W : List Jvm.Cond) (own nm : String) (bytes : ByteArray) (ml : Nat) (rt : Option FieldType) : Prop :=
  p.tables.exec = Jvm.exec ∧ Z.Warmed39 s.vm ∧ s.vm.findClass own = some m.cls ∧ c.code = bytes ∧ c.maxLocals = ml ∧ meth.sig.returnType = rt ∧ meth.locks = false ∧ meth.name = nm ∧ ∀ d ∈ W, d.before a0 Z = true
def Met (l : Launch) (D : Dic) (Z : State) (n0 : Nat) (y : MethodName) (bytes : ByteArray) (ml : Nat) (rt : Option FieldType) (R : Room) (as : List Value) (A : AH) (r : Option Value) (A' : AH) : Prop :=
  ∀ (ws : List Jvm.Cond) (h0 : Heap), Rep D Z n0 h0 A → MetFree l y (head1 (Jvm.Cond.code y bytes ml rt :: ws) R) (fun a U => a = as.toArray ∧ Z.Warmed39 U.vm ∧ U.heap = h0) (fun _ _ _ _ _ => True) (fun _ U o U' => ∃ v L, o = .returned v ∧ QR D Z n0 r A' v U'.heap L ∧ FrameEnd U o U' L R.cells R.slots)
section Walk
variable {p : Program} {l : Launch} {e : Env} {R : Room} {s : State} {m : MethodId} {args : Array Value} {below : List Frame} {meth : Method} {c : Code} {Z : State} {a0 : Array Value} {W : List Jvm.Cond} {own nm : String} {bytes : ByteArray} {ml : Nat} {rt : Option FieldType} {D : Dic} {n0 : Nat} {T : State} {A A' : AH} {cells slots : Nat} {G : Outcome → State → Prop} {pc : Nat} {Ls : Array Slot} {st : List Value}
theorem go {S S' : State} (h : ∀ t, Steps p.tables e below S' t → Steps p.tables e below S t) (k : Go p e below S' G) : Go p e below S G := by
  obtain ⟨t, o, h1, h2⟩ := k; exact ⟨t, o, h t h1, h2⟩
theorem On.here (X : On p l e R s m args below meth c D Z n0 T A cells slots) : At T m c below := by obtain ⟨_, X, -⟩ := X; exact X.here
theorem On.more {cells' slots' : Nat} (X : On p l e R s m args below meth c D Z n0 T A cells slots) (hc : cells ≤ cells') (hs : slots ≤ slots') : On p l e R s m args below meth c D Z n0 T A cells' slots' := by
  obtain ⟨locs, X, N⟩ := X; exact ⟨locs, X.more hc hs, N⟩
theorem wd {d : Jvm.Cond} (K : Cx p l e R s m meth c Z a0 W own nm bytes ml rt) {i : Nat} (h : W[i]? = some d) : d.before a0 Z = true := K.2.2.2.2.2.2.2.2 d (List.mem_of_getElem? h)
theorem dc (K : Cx p l e R s m meth c Z a0 W own nm bytes ml rt) {r : Except DecodeError (Instr × Nat)} (h : decode bytes pc = r) : decode c.code pc = r := K.2.2.2.1 ▸ h
theorem ldcI (K : Cx p l e R s m meth c Z a0 W own nm bytes ml rt) (X : On p l e R s m args below meth c D Z n0 T A cells slots) {i idx : Nat} {v : Int32} (w : W[i]? = some (.constant own idx v)) (hd : decode bytes pc = .ok (.ldc idx, 2))
    {pc' : Nat} (hp : pc + 2 = pc') (k : Go p e below (T.setTop (mkF m pc'  Ls (.int v :: st))) G) : Go p e below (T.setTop (mkF m pc Ls st)) G := by
  subst hp
  obtain ⟨locs, X, -⟩ := X
  exact go (X.ldcInt K.1 K.2.2.1 (mvT K.2.1 (wd K w)) (g := mkF m pc Ls st) rfl (dc K hd)) k
theorem ldcwI (K : Cx p l e R s m meth c Z a0 W own nm bytes ml rt) (X : On p l e R s m args below meth c D Z n0 T A cells slots) {i idx : Nat} {v : Int32} (w : W[i]? = some (.constant own idx v)) (hd : decode bytes pc = .ok (.ldc_w idx, 3))
    {pc' : Nat} (hp : pc + 3 = pc') (k : Go p e below (T.setTop (mkF m pc'  Ls (.int v :: st))) G) : Go p e below (T.setTop (mkF m pc Ls st)) G := by
  subst hp
  obtain ⟨locs, X, -⟩ := X
  exact go (X.ldcwInt K.1 K.2.2.1 (mvT K.2.1 (wd K w)) (g := mkF m pc Ls st) rfl (dc K hd)) k
theorem ldcL (K : Cx p l e R s m meth c Z a0 W own nm bytes ml rt) (X : On p l e R s m args below meth c D Z n0 T A cells slots) {i idx : Nat} {v : Int64} (w : W[i]? = some (.constantLong own idx v)) (hd : decode bytes pc = .ok (.ldc2_w idx, 3))
    {pc' : Nat} (hp : pc + 3 = pc') (k : Go p e below (T.setTop (mkF m pc'  Ls (.long v :: st))) G) : Go p e below (T.setTop (mkF m pc Ls st)) G := by
  subst hp
  obtain ⟨locs, X, -⟩ := X
  exact go (X.ldc2Long K.1 K.2.2.1 (mvT K.2.1 (wd K w)) (g := mkF m pc Ls st) rfl (dc K hd)) k
/-! the returns -/
theorem retV (K : Cx p l e R s m meth c Z a0 W own nm bytes ml none) (X : On p l e R s m args below meth c D Z n0 T A cells slots) (hc : cells ≤ R.cells) (hs : slots ≤ R.slots) (hd : decode bytes pc = .ok (.return_, 1)) :
    Go p e below (T.setTop (mkF m pc Ls [])) (Fini D Z n0 s R none A) := by
  obtain ⟨locs, X, N, RA⟩ := X
  obtain ⟨fs, hr, hrun, hended, hW, hsame⟩ := X.leave (v := none) (fun _ => rfl) K.2.2.2.2.2.2.1
  exact ⟨_, _, X.returnOut K.1 K.2.2.2.2.2.1 (dc K hd) hr, hrun, hended, none, locs, rfl, ⟨rfl, N, RA⟩, ⟨_, rfl⟩, hW, hsame.mono hc hs⟩
theorem retX {t : FieldType} {i : Instr} {w : Value} (K : Cx p l e R s m meth c Z a0 W own nm bytes ml (some t)) (X : On p l e R s m args below meth c D Z n0 T A cells slots) (hc : cells ≤ R.cells) (hs : slots ≤ R.slots) (hd : decode bytes pc = .ok (i, 1)) (hn : narrow t w = w)
    (hi : (i = .ireturn ∧ (t = .int ∨ t = .boolean ∨ t = .byte ∨ t = .char ∨ t = .short) ∧ ∃ z, w = .int z) ∨ (i = .lreturn ∧ t = .long ∧ ∃ z, w = .long z) ∨ (i = .dreturn ∧ t = .double ∧ ∃ z, w = .double z) ∨ (i = .freturn ∧ t = .float ∧ ∃ z, w = .float z) ∨ (i = .areturn ∧ t.isReference = true ∧ w.isRef = true)) :
    Go p e below (T.setTop (mkF m pc Ls (w :: st))) (Fini D Z n0 s R (some w) A) := by
  obtain ⟨locs, X, N, RA⟩ := X
  obtain ⟨fs, hr, hrun, hended, hW, hsame⟩ := X.leave (v := some w) (fun h => by rw [K.2.2.2.2.2.1] at h; cases h) K.2.2.2.2.2.2.1
  exact ⟨_, _, Jvm.RoadKit.retOut X K.1 K.2.2.2.2.2.1 hn hi (dc K hd) hr, hrun, hended, some w, locs, rfl, ⟨rfl, N, RA⟩, ⟨_, rfl⟩, hW, hsame.mono hc hs⟩
theorem retI {z : Int32} (K : Cx p l e R s m meth c Z a0 W own nm bytes ml (some .int)) (X : On p l e R s m args below meth c D Z n0 T A cells slots) (hc : cells ≤ R.cells) (hs : slots ≤ R.slots) (hd : decode bytes pc = .ok (.ireturn, 1)) :
    Go p e below (T.setTop (mkF m pc Ls (.int z :: st))) (Fini D Z n0 s R (some (.int z)) A) := retX K X hc hs hd rfl (Or.inl ⟨rfl, Or.inl rfl, z, rfl⟩)
theorem retJ {z : Int64} (K : Cx p l e R s m meth c Z a0 W own nm bytes ml (some .long)) (X : On p l e R s m args below meth c D Z n0 T A cells slots) (hc : cells ≤ R.cells) (hs : slots ≤ R.slots) (hd : decode bytes pc = .ok (.lreturn, 1)) :
    Go p e below (T.setTop (mkF m pc Ls (.long z :: st))) (Fini D Z n0 s R (some (.long z)) A) := retX K X hc hs hd rfl (Or.inr (Or.inl ⟨rfl, rfl, z, rfl⟩))
theorem retR {a : Addr} {t : FieldType} (K : Cx p l e R s m meth c Z a0 W own nm bytes ml (some t)) (ht : t.isReference = true) (hn : narrow t (.ref a) = .ref a) (X : On p l e R s m args below meth c D Z n0 T A cells slots) (hc : cells ≤ R.cells) (hs : slots ≤ R.slots) (hd : decode bytes pc = .ok (.areturn, 1)) :
    Go p e below (T.setTop (mkF m pc Ls (.ref a :: st))) (Fini D Z n0 s R (some (.ref a)) A) := retX K X hc hs hd hn (Or.inr (Or.inr (Or.inr (Or.inr ⟨rfl, ht, rfl⟩))))
theorem retB {z : Int32} {t : FieldType} (K : Cx p l e R s m meth c Z a0 W own nm bytes ml (some t)) (ht : t = .boolean ∨ t = .byte ∨ t = .char ∨ t = .short) (X : On p l e R s m args below meth c D Z n0 T A cells slots) (hc : cells ≤ R.cells) (hs : slots ≤ R.slots) (hd : decode bytes pc = .ok (.ireturn, 1)) :
    Go p e below (T.setTop (mkF m pc Ls (.int z :: st))) (Fini D Z n0 s R (some (.int (nar t z))) A) := by
  obtain ⟨locs, X, N, RA⟩ := X
  obtain ⟨fs, hr, hrun, hended, hW, hsame⟩ := X.leave (v := some (.int (nar t z))) (fun h => by rw [K.2.2.2.2.2.1] at h; cases h) K.2.2.2.2.2.2.1
  exact ⟨_, _, Jvm.RoadKit.retN X K.1 K.2.2.2.2.2.1 ht (dc K hd) hr, hrun, hended, some (.int (nar t z)), locs, rfl, ⟨rfl, N, RA⟩, ⟨_, rfl⟩, hW, hsame.mono hc hs⟩
/-! fields -/
theorem getf (K : Cx p l e R s m meth c Z a0 W own nm bytes ml rt) (X : On p l e R s m args below meth c D Z n0 T A cells slots) {i idx t f a : Nat} {O n d : String} {v : Value} (w : W[i]? = some (.fieldLink own idx O n d)) (hd : decode bytes pc = .ok (.getfield idx, 3))
    (ht : 10 ≤ t) (hk : (D t).2[f]? = some (O, n, d)) (hg : h_fget A t a f = some v)
    {pc' : Nat} (hp : pc + 3 = pc') (k : ∀ T', On p l e R s m args below meth c D Z n0 T' A cells slots → Go p e below (T'.setTop (mkF m pc'  Ls (lf n0 v :: st))) G) : Go p e below (T.setTop (mkF m pc Ls (.ref (n0 + a) :: st))) G := by
  subst hp
  obtain ⟨locs, X, N, RA⟩ := X
  obtain ⟨T', X', e', stp⟩ := getF X K.1 K.2.1 K.2.2.1 (host := "") (Or.inl (wd K w)) Via.refl rfl (RA.fld ht hg hk) (g := mkF m pc Ls (.ref (n0 + a) :: st)) rfl rfl (dc K hd)
  exact go stp (k T' ⟨locs, X', N, by rw [e']; exact RA⟩)
theorem getfI (K : Cx p l e R s m meth c Z a0 W own nm bytes ml rt) (X : On p l e R s m args below meth c D Z n0 T A cells slots) {i idx t f a : Nat} {O n d : String} {v : Int32} (w : W[i]? = some (.fieldLink own idx O n d)) (hd : decode bytes pc = .ok (.getfield idx, 3))
    (ht : 10 ≤ t) (hk : (D t).2[f]? = some (O, n, d)) (hg : asI (h_fget A t a f) = some v)
    {pc' : Nat} (hp : pc + 3 = pc') (k : ∀ T', On p l e R s m args below meth c D Z n0 T' A cells slots → Go p e below (T'.setTop (mkF m pc' Ls (.int v :: st))) G) : Go p e below (T.setTop (mkF m pc Ls (.ref (n0 + a) :: st))) G := getf K X w hd ht hk (asI_s hg) hp k
theorem getfJ (K : Cx p l e R s m meth c Z a0 W own nm bytes ml rt) (X : On p l e R s m args below meth c D Z n0 T A cells slots) {i idx t f a : Nat} {O n d : String} {v : Int64} (w : W[i]? = some (.fieldLink own idx O n d)) (hd : decode bytes pc = .ok (.getfield idx, 3))
    (ht : 10 ≤ t) (hk : (D t).2[f]? = some (O, n, d)) (hg : asJ (h_fget A t a f) = some v)
    {pc' : Nat} (hp : pc + 3 = pc') (k : ∀ T', On p l e R s m args below meth c D Z n0 T' A cells slots → Go p e below (T'.setTop (mkF m pc' Ls (.long v :: st))) G) : Go p e below (T.setTop (mkF m pc Ls (.ref (n0 + a) :: st))) G := getf K X w hd ht hk (asJ_s hg) hp k
theorem getfR (K : Cx p l e R s m meth c Z a0 W own nm bytes ml rt) (X : On p l e R s m args below meth c D Z n0 T A cells slots) {i idx t f a : Nat} {O n d : String} {v : Nat} (w : W[i]? = some (.fieldLink own idx O n d)) (hd : decode bytes pc = .ok (.getfield idx, 3))
    (ht : 10 ≤ t) (hk : (D t).2[f]? = some (O, n, d)) (hg : asR (h_fget A t a f) = some v)
    {pc' : Nat} (hp : pc + 3 = pc') (k : ∀ T', On p l e R s m args below meth c D Z n0 T' A cells slots → Go p e below (T'.setTop (mkF m pc' Ls (.ref (n0 + v) :: st))) G) : Go p e below (T.setTop (mkF m pc Ls (.ref (n0 + a) :: st))) G := getf K X w hd ht hk (asR_s hg) hp k
theorem putf (K : Cx p l e R s m meth c Z a0 W own nm bytes ml rt) (sep : ∀ t, Sep Z (D t).2) (X : On p l e R s m args below meth c D Z n0 T A cells slots) {i idx t f a kk i2 : Nat} {O n d : String} {va v : Value} {ty : FieldType} (w : W[i]? = some (.fieldLink own idx O n d)) (hd : decode bytes pc = .ok (.putfield idx, 3))
    (ht : 10 ≤ t) (hk : (D t).2[f]? = some (O, n, d)) (wl : (Jvm.Cond.lays (D t).1 O n d).before a0 Z = true ∨ ((Jvm.Cond.laysFinal (D t).1 O n d).before a0 Z = true ∧ own = O ∧ nm = "<init>")) (wi : W[i2]? = some (.instantiable (D t).1 kk))
    (hty : parseFieldDescriptor d = some ty) (hn : narrow ty v = lf n0 va) (hf : fits ty (lf n0 va) = true) (hp : h_fset A t a f va = some A')
    {pc' : Nat} (hp : pc + 3 = pc') (k : ∀ T', On p l e R s m args below meth c D Z n0 T' A' cells slots → Go p e below (T'.setTop (mkF m pc'  Ls st)) G) : Go p e below (T.setTop (mkF m pc Ls (v :: .ref (n0 + a) :: st))) G := by
  subst hp
  obtain ⟨locs, X, N, RA⟩ := X
  obtain ⟨vs, hA, hlt, -⟩ := fset_s hp
  have F := RA.fld ht (show h_fget A t a f = some vs[f] by simp [h_fget, hA]) hk
  obtain ⟨T', h', X', e', W', stp⟩ := putFN X K.1 K.2.1 K.2.2.1 (wd K w) Via.refl rfl F (RA.exa ht hA) (wl.imp id fun q => ⟨q.1, q.2.1, K.2.2.2.2.2.2.2.1.trans q.2.2⟩) (wd K wi) hty hn hf (g := mkF m pc Ls (v :: .ref (n0 + a) :: st)) rfl rfl (dc K hd)
  exact go stp (k T' ⟨_, X', Fr.snoc X' N (Nat.le_add_right _ _), by rw [e']; exact RA.wrF (sep t) ht hp hk W'⟩)
/-! new -/
theorem newo (K : Cx p l e R s m meth c Z a0 W own nm bytes ml rt) (X : On p l e R s m args below meth c D Z n0 T A cells slots) {i1 i2 i3 idx n t : Nat} {ds : List Value} (w1 : W[i1]? = some (.classLink own idx (D t).1)) (w2 : W[i2]? = some (.instantiable (D t).1 n)) (w3 : W[i3]? = some (.initialized (D t).1))
    (hd : decode bytes pc = .ok (.new idx, 3)) (hc : cells + 1 ≤ R.cells) (hs : slots + n ≤ R.slots) (ht : 10 ≤ t) (hds : ∀ (k : Nat) (O f d : String) (v : Value), (D t).2[k]? = some (O, f, d) → ds[k]? = some v → ∃ ty, parseFieldDescriptor d = some ty ∧ Laid Z a0 (D t).1 O f d ∧ lf n0 v = defaultValue ty)
    {q : Nat × AH} (hq : h_onew A t ds = some q)
    {pc' : Nat} (hp : pc + 3 = pc') (k : ∀ T', On p l e R s m args below meth c D Z n0 T' q.2 (cells + 1) (slots + n) → Go p e below (T'.setTop (mkF m pc'  Ls (.ref (n0 + q.1) :: st))) G) : Go p e below (T.setTop (mkF m pc Ls st)) G := by
  subst hp
  cases hq
  obtain ⟨locs, X, N, RA⟩ := X
  obtain ⟨vm', cC, kC, h1, h2, h3, h4, X', stp⟩ := X.newCold K.1 K.2.2.1 (mvT K.2.1 (wd K w1)) (mvT K.2.1 (wd K w2)) (mvT K.2.1 (wd K w3)) (g := mkF m pc Ls st) rfl (dc K hd) hc hs
  have hZ := K.2.1
  rw [hZ.alike.findClass] at h1
  obtain ⟨kZ, z1, -⟩ := Vm.findClass_spec h1
  obtain ⟨k', z2, z3⟩ := hZ.alike.2.2 _ _ z1
  cases h2.symm.trans z2
  have ei : kC.instanceTypes = kZ.instanceTypes := by rw [z3]
  have hN : (T.heap.push { cls := cC, slots := kC.instanceTypes.map defaultValue, vm := .none })[T.heap.size]? = some { cls := cC, slots := kC.instanceTypes.map defaultValue, vm := .none } := by simp
  have hsz := RA.1
  refine go stp ?_
  rw [hsz]
  refine k _ ⟨locs, X', N, ?_⟩
  show Rep D Z n0 (T.heap.push _) _
  refine RA.push ⟨fun z => absurd ht (by omega), fun _ => ⟨⟨_, kZ, hN, h1, z1, rfl, fun _ => by simp [ei]⟩, fun j O f d v e1 e2 => ?_⟩⟩
  rw [List.getElem?_map, Option.map_eq_some_iff] at e2
  obtain ⟨v0, e2, rfl⟩ := e2
  obtain ⟨ty, p1, p2, p3⟩ := hds j O f d v0 e1 e2
  obtain ⟨c1, k1, cf, kf, i, f', a1, a2, a3, a4, a5, a6, -⟩ := p2.spec
  cases h1.symm.trans a1
  cases z1.symm.trans a2
  exact ⟨_, cf, kf, i, f', hN, a3, a4, by simp, rfl, a5, by simp [ei, a6, (State.fieldFound?_type a3 p1).2, p3]⟩
theorem newa (K : Cx p l e R s m meth c Z a0 W own nm bytes ml rt) (X : On p l e R s m args below meth c D Z n0 T A cells slots) {i1 t cap : Nat} {at' : ArrayType} {n : Int32} {dv : Value} (w1 : W[i1]? = some (.arrayClass (newarray.typeOf at'))) (hd : decode bytes pc = .ok (.newarray at', 2))
    (hb : cap * 8 ≤ 536870912) (hc : cells + 1 ≤ R.cells) (hs : slots + cap ≤ R.slots) (ht : t < 10) (hty : newarray.typeOf at' = aty t) (hdv : lf n0 dv = defaultValue (aty t)) {q : Nat × AH} (hq : h_anew A t cap n dv = some q)
    {pc' : Nat} (hp : pc + 2 = pc') (k : ∀ T', On p l e R s m args below meth c D Z n0 T' q.2 (cells + 1) (slots + cap) → Go p e below (T'.setTop (mkF m pc'  Ls (.ref (n0 + q.1) :: st))) G) : Go p e below (T.setTop (mkF m pc Ls (.int n :: st))) G := by
  subst hp
  unfold h_anew at hq
  split at hq
  · cases hq
  rename_i hn
  cases hq
  have hn1 : ¬ n < 0 := fun z => hn (Or.inl z)
  have hn2 : n.toNatClampNeg ≤ cap := Nat.le_of_not_lt fun z => hn (Or.inr z)
  have hn3 : n.toNatClampNeg < 2 ^ 31 := (back32 hn1).2
  obtain ⟨locs, X, N, RA⟩ := X
  have hZ := K.2.1
  have hcb : componentBytes (newarray.typeOf at') ≤ 8 := by cases at' <;> decide
  obtain ⟨cA, kA, comp, h1, h2, h3, X', stp⟩ := X.newarrayPrim K.1 (mvA hZ (wd K w1)) (g := mkF m pc Ls (.int n :: st)) rfl (dc K hd) rfl hn1 (Nat.le_trans (Nat.mul_le_mul hn2 hcb) hb) hc (by omega)
  rw [hZ.alike.findClass] at h1
  obtain ⟨kZ, z1, -⟩ := Vm.findClass_spec h1
  obtain ⟨k', z2, z3⟩ := hZ.alike.2.2 _ _ z1
  cases h2.symm.trans z2
  refine go stp ?_
  rw [RA.1]
  refine k _ ⟨locs, X'.more (Nat.le_refl _) (by omega), N, ?_⟩
  show Rep D Z n0 (T.heap.push _) _
  refine RA.push ⟨fun _ => ⟨_, ⟨by simp; rfl, ⟨by simp, kZ, z1, comp, by rw [← hty, ← h3, z3]⟩, by simp⟩, ?_, by simpa using hn3, fun v hv => ?_⟩, fun z => absurd ht (by omega)⟩
  · simp [hty, hdv]
  · rw [List.map_replicate] at hv
    rw [List.eq_of_mem_replicate hv, hdv]; cases aty t <;> rfl
/-! arrays -/
theorem h_alen' (K : Cx p l e R s m meth c Z a0 W own nm bytes ml rt) (X : On p l e R s m args below meth c D Z n0 T A cells slots) {t a : Nat} {n : Int32} (ht : t < 10) (hg : h_alen A t a = some n) (hd : decode bytes pc = .ok (.arraylength, 1))
    {pc' : Nat} (hp : pc + 1 = pc') (k : Go p e below (T.setTop (mkF m pc'  Ls (.int n :: st))) G) : Go p e below (T.setTop (mkF m pc Ls (.ref (n0 + a) :: st))) G := by
  subst hp
  obtain ⟨locs, X, N, RA⟩ := X
  unfold h_alen at hg
  split at hg
  · rename_i t' vs e
    split at hg
    · rename_i q; subst q
      cases hg
      obtain ⟨cl, h1, h2, -⟩ := RA.arr ht e
      have : cl.slots.size = vs.length := by rw [← Array.length_toList, h2]; simp
      rw [← this] at k
      exact go (X.arraylength K.1 h1.1 (State.isArrayOf_alike K.2.1.alike h1.2.1) (g := mkF m pc Ls (.ref (n0 + a) :: st)) rfl rfl (dc K hd)) k
    · cases hg
  · cases hg
theorem ald0 (K : Cx p l e R s m meth c Z a0 W own nm bytes ml rt) (X : On p l e R s m args below meth c D Z n0 T A cells slots) {a : Nat} {j : Int32} {v : Value} (hg : h_aget A 0 a j = some v) (hd : decode bytes pc = .ok (.iaload, 1))
    {pc' : Nat} (hp : pc + 1 = pc') (k : Go p e below (T.setTop (mkF m pc'  Ls (lf n0 v :: st))) G) : Go p e below (T.setTop (mkF m pc Ls (.int j :: .ref (n0 + a) :: st))) G := by
  subst hp
  obtain ⟨locs, X, N, RA⟩ := X
  obtain ⟨cl, h1, h2, h3⟩ := RA.at (by decide) hg
  exact go (X.iaload K.1 h1.1 (State.isArrayOf_alike K.2.1.alike h1.2.1) h1.2.2 h2 h3 (g := mkF m pc Ls (.int j :: .ref (n0 + a) :: st)) rfl rfl (dc K hd)) k
theorem ald1 (K : Cx p l e R s m meth c Z a0 W own nm bytes ml rt) (X : On p l e R s m args below meth c D Z n0 T A cells slots) {a : Nat} {j : Int32} {v : Value} (hg : h_aget A 1 a j = some v) (hd : decode bytes pc = .ok (.caload, 1))
    {pc' : Nat} (hp : pc + 1 = pc') (k : Go p e below (T.setTop (mkF m pc'  Ls (lf n0 v :: st))) G) : Go p e below (T.setTop (mkF m pc Ls (.int j :: .ref (n0 + a) :: st))) G := by
  subst hp
  obtain ⟨locs, X, N, RA⟩ := X
  obtain ⟨cl, h1, h2, h3⟩ := RA.at (by decide) hg
  exact go (X.caload K.1 h1.1 (State.isArrayOf_alike K.2.1.alike h1.2.1) h1.2.2 h2 h3 (g := mkF m pc Ls (.int j :: .ref (n0 + a) :: st)) rfl rfl (dc K hd)) k
theorem ald2 (K : Cx p l e R s m meth c Z a0 W own nm bytes ml rt) (X : On p l e R s m args below meth c D Z n0 T A cells slots) {a : Nat} {j : Int32} {v : Value} (hg : h_aget A 2 a j = some v) (hd : decode bytes pc = .ok (.baload, 1))
    {pc' : Nat} (hp : pc + 1 = pc') (k : Go p e below (T.setTop (mkF m pc'  Ls (lf n0 v :: st))) G) : Go p e below (T.setTop (mkF m pc Ls (.int j :: .ref (n0 + a) :: st))) G := by
  subst hp
  obtain ⟨locs, X, N, RA⟩ := X
  obtain ⟨cl, h1, h2, h3⟩ := RA.at (by decide) hg
  exact go (X.baloadBytes K.1 h1.1 (State.isArrayOf_alike K.2.1.alike h1.2.1) h1.2.2 h2 h3 (g := mkF m pc Ls (.int j :: .ref (n0 + a) :: st)) rfl rfl (dc K hd)) k
theorem ald3 (K : Cx p l e R s m meth c Z a0 W own nm bytes ml rt) (X : On p l e R s m args below meth c D Z n0 T A cells slots) {a : Nat} {j : Int32} {v : Value} (hg : h_aget A 3 a j = some v) (hd : decode bytes pc = .ok (.laload, 1))
    {pc' : Nat} (hp : pc + 1 = pc') (k : Go p e below (T.setTop (mkF m pc'  Ls (lf n0 v :: st))) G) : Go p e below (T.setTop (mkF m pc Ls (.int j :: .ref (n0 + a) :: st))) G := by
  subst hp
  obtain ⟨locs, X, N, RA⟩ := X
  obtain ⟨cl, h1, h2, h3⟩ := RA.at (by decide) hg
  exact go (X.laload K.1 h1.1 (State.isArrayOf_alike K.2.1.alike h1.2.1) h1.2.2 h2 h3 (g := mkF m pc Ls (.int j :: .ref (n0 + a) :: st)) rfl rfl (dc K hd)) k
theorem ald4 (K : Cx p l e R s m meth c Z a0 W own nm bytes ml rt) (X : On p l e R s m args below meth c D Z n0 T A cells slots) {a : Nat} {j : Int32} {v : Value} (hg : h_aget A 4 a j = some v) (hd : decode bytes pc = .ok (.baload, 1))
    {pc' : Nat} (hp : pc + 1 = pc') (k : Go p e below (T.setTop (mkF m pc'  Ls (lf n0 v :: st))) G) : Go p e below (T.setTop (mkF m pc Ls (.int j :: .ref (n0 + a) :: st))) G := by
  subst hp
  obtain ⟨locs, X, N, RA⟩ := X
  obtain ⟨cl, h1, h2, h3⟩ := RA.at (by decide) hg
  exact go (X.baloadBooleans K.1 h1.1 (State.isArrayOf_alike K.2.1.alike h1.2.1) h1.2.2 h2 h3 (g := mkF m pc Ls (.int j :: .ref (n0 + a) :: st)) rfl rfl (dc K hd)) k
theorem ld0 (K : Cx p l e R s m meth c Z a0 W own nm bytes ml rt) (X : On p l e R s m args below meth c D Z n0 T A cells slots) {a : Nat} {j : Int32} {v : Int32} (hg : asI (h_aget A 0 a j) = some v) (hd : decode bytes pc = .ok (.iaload, 1))
    {pc' : Nat} (hp : pc + 1 = pc') (k : Go p e below (T.setTop (mkF m pc' Ls (.int v :: st))) G) : Go p e below (T.setTop (mkF m pc Ls (.int j :: .ref (n0 + a) :: st))) G := ald0 K X (asI_s hg) hd hp k
theorem ld1 (K : Cx p l e R s m meth c Z a0 W own nm bytes ml rt) (X : On p l e R s m args below meth c D Z n0 T A cells slots) {a : Nat} {j : Int32} {v : Int32} (hg : asI (h_aget A 1 a j) = some v) (hd : decode bytes pc = .ok (.caload, 1))
    {pc' : Nat} (hp : pc + 1 = pc') (k : Go p e below (T.setTop (mkF m pc' Ls (.int v :: st))) G) : Go p e below (T.setTop (mkF m pc Ls (.int j :: .ref (n0 + a) :: st))) G := ald1 K X (asI_s hg) hd hp k
theorem ld2 (K : Cx p l e R s m meth c Z a0 W own nm bytes ml rt) (X : On p l e R s m args below meth c D Z n0 T A cells slots) {a : Nat} {j : Int32} {v : Int32} (hg : asI (h_aget A 2 a j) = some v) (hd : decode bytes pc = .ok (.baload, 1))
    {pc' : Nat} (hp : pc + 1 = pc') (k : Go p e below (T.setTop (mkF m pc' Ls (.int v :: st))) G) : Go p e below (T.setTop (mkF m pc Ls (.int j :: .ref (n0 + a) :: st))) G := ald2 K X (asI_s hg) hd hp k
theorem ld3 (K : Cx p l e R s m meth c Z a0 W own nm bytes ml rt) (X : On p l e R s m args below meth c D Z n0 T A cells slots) {a : Nat} {j : Int32} {v : Int64} (hg : asJ (h_aget A 3 a j) = some v) (hd : decode bytes pc = .ok (.laload, 1))
    {pc' : Nat} (hp : pc + 1 = pc') (k : Go p e below (T.setTop (mkF m pc' Ls (.long v :: st))) G) : Go p e below (T.setTop (mkF m pc Ls (.int j :: .ref (n0 + a) :: st))) G := ald3 K X (asJ_s hg) hd hp k
theorem ld4 (K : Cx p l e R s m meth c Z a0 W own nm bytes ml rt) (X : On p l e R s m args below meth c D Z n0 T A cells slots) {a : Nat} {j : Int32} {v : Int32} (hg : asI (h_aget A 4 a j) = some v) (hd : decode bytes pc = .ok (.baload, 1))
    {pc' : Nat} (hp : pc + 1 = pc') (k : Go p e below (T.setTop (mkF m pc' Ls (.int v :: st))) G) : Go p e below (T.setTop (mkF m pc Ls (.int j :: .ref (n0 + a) :: st))) G := ald4 K X (asI_s hg) hd hp k
theorem ast0 (K : Cx p l e R s m meth c Z a0 W own nm bytes ml rt) (X : On p l e R s m args below meth c D Z n0 T A cells slots) {a : Nat} {j x : Int32} (hp : h_aset A 0 a j (.int x) = some A') (hd : decode bytes pc = .ok (.iastore, 1))
    {pc' : Nat} (hp : pc + 1 = pc') (k : ∀ T', On p l e R s m args below meth c D Z n0 T' A' cells slots → Go p e below (T'.setTop (mkF m pc'  Ls st)) G) : Go p e below (T.setTop (mkF m pc Ls (.int x :: .int j :: .ref (n0 + a) :: st))) G := by
  subst hp
  obtain ⟨locs, X, N, RA⟩ := X
  obtain ⟨cl, h1, h2⟩ := RA.into (by decide) hp
  obtain ⟨T', h', X', e', W', stp⟩ := stI X K.1 K.2.1 rfl h1 h2 (g := mkF m pc Ls (.int x :: .int j :: .ref (n0 + a) :: st)) rfl rfl (dc K hd)
  exact go stp (k T' ⟨_, X', Fr.snoc X' N (Nat.le_add_right _ _), by rw [e']; exact RA.wrA (by decide) hp rfl W'⟩)
theorem ast1 (K : Cx p l e R s m meth c Z a0 W own nm bytes ml rt) (X : On p l e R s m args below meth c D Z n0 T A cells slots) {a : Nat} {j x : Int32} (hp : h_aset A 1 a j (.int (nar .char x)) = some A') (hd : decode bytes pc = .ok (.castore, 1))
    {pc' : Nat} (hp : pc + 1 = pc') (k : ∀ T', On p l e R s m args below meth c D Z n0 T' A' cells slots → Go p e below (T'.setTop (mkF m pc'  Ls st)) G) : Go p e below (T.setTop (mkF m pc Ls (.int x :: .int j :: .ref (n0 + a) :: st))) G := by
  subst hp
  obtain ⟨locs, X, N, RA⟩ := X
  obtain ⟨cl, h1, h2⟩ := RA.into (by decide) hp
  obtain ⟨T', h', X', e', W', stp⟩ := stC X K.1 K.2.1 rfl h1 h2 (g := mkF m pc Ls (.int x :: .int j :: .ref (n0 + a) :: st)) rfl rfl (dc K hd)
  exact go stp (k T' ⟨_, X', Fr.snoc X' N (Nat.le_add_right _ _), by rw [e']; exact RA.wrA (by decide) hp (fits_nar_char _) W'⟩)
theorem ast2 (K : Cx p l e R s m meth c Z a0 W own nm bytes ml rt) (X : On p l e R s m args below meth c D Z n0 T A cells slots) {a : Nat} {j x : Int32} (hp : h_aset A 2 a j (.int (nar .byte x)) = some A') (hd : decode bytes pc = .ok (.bastore, 1))
    {pc' : Nat} (hp : pc + 1 = pc') (k : ∀ T', On p l e R s m args below meth c D Z n0 T' A' cells slots → Go p e below (T'.setTop (mkF m pc'  Ls st)) G) : Go p e below (T.setTop (mkF m pc Ls (.int x :: .int j :: .ref (n0 + a) :: st))) G := by
  subst hp
  obtain ⟨locs, X, N, RA⟩ := X
  obtain ⟨cl, h1, h2⟩ := RA.into (by decide) hp
  obtain ⟨T', h', X', e', W', stp⟩ := stB X K.1 K.2.1 rfl h1 h2 (g := mkF m pc Ls (.int x :: .int j :: .ref (n0 + a) :: st)) rfl rfl (dc K hd)
  exact go stp (k T' ⟨_, X', Fr.snoc X' N (Nat.le_add_right _ _), by rw [e']; exact RA.wrA (by decide) hp (fits_nar_byte _) W'⟩)
theorem ast3 (K : Cx p l e R s m meth c Z a0 W own nm bytes ml rt) (X : On p l e R s m args below meth c D Z n0 T A cells slots) {a : Nat} {j : Int32} {x : Int64} (hp : h_aset A 3 a j (.long x) = some A') (hd : decode bytes pc = .ok (.lastore, 1))
    {pc' : Nat} (hp : pc + 1 = pc') (k : ∀ T', On p l e R s m args below meth c D Z n0 T' A' cells slots → Go p e below (T'.setTop (mkF m pc'  Ls st)) G) : Go p e below (T.setTop (mkF m pc Ls (.long x :: .int j :: .ref (n0 + a) :: st))) G := by
  subst hp
  obtain ⟨locs, X, N, RA⟩ := X
  obtain ⟨cl, h1, h2⟩ := RA.into (by decide) hp
  obtain ⟨T', h', X', e', W', stp⟩ := stJ X K.1 K.2.1 rfl h1 h2 (g := mkF m pc Ls (.long x :: .int j :: .ref (n0 + a) :: st)) rfl rfl (dc K hd)
  exact go stp (k T' ⟨_, X', Fr.snoc X' N (Nat.le_add_right _ _), by rw [e']; exact RA.wrA (by decide) hp rfl W'⟩)
theorem ast4 (K : Cx p l e R s m meth c Z a0 W own nm bytes ml rt) (X : On p l e R s m args below meth c D Z n0 T A cells slots) {a : Nat} {j x : Int32} (hp : h_aset A 4 a j (.int (nar .boolean x)) = some A') (hd : decode bytes pc = .ok (.bastore, 1))
    {pc' : Nat} (hp : pc + 1 = pc') (k : ∀ T', On p l e R s m args below meth c D Z n0 T' A' cells slots → Go p e below (T'.setTop (mkF m pc'  Ls st)) G) : Go p e below (T.setTop (mkF m pc Ls (.int x :: .int j :: .ref (n0 + a) :: st))) G := by
  subst hp
  obtain ⟨locs, X, N, RA⟩ := X
  obtain ⟨cl, h1, h2⟩ := RA.into (by decide) hp
  obtain ⟨T', h', X', e', W', stp⟩ := stZ X K.1 K.2.1 rfl h1 h2 (g := mkF m pc Ls (.int x :: .int j :: .ref (n0 + a) :: st)) rfl rfl (dc K hd)
  exact go stp (k T' ⟨_, X', Fr.snoc X' N (Nat.le_add_right _ _), by rw [e']; exact RA.wrA (by decide) hp (fits_nar_bool _) W'⟩)
/-! calls -/
theorem obj (K : Cx p l e R s m meth c Z a0 W own nm bytes ml rt) (X : On p l e R s m args below meth c D Z n0 T A cells slots) {i1 i2 i3 idx w : Nat} {a : Addr} (w1 : W[i1]? = some (.methodLink own idx Lib.objectInit)) (w2 : W[i2]? = some (.instanceMethod Lib.objectInit)) (w3 : W[i3]? = some (.code Lib.objectInit ⟨#[0xb1]⟩ 1 none))
    (hd : decode bytes pc = .ok (.invokespecial idx, 3)) (hz : Ls.size = ml) (hf : 1 ≤ R.frames) (hw : (st.map fun v => v.category).sum ≤ w) (hl : w + 12 ≤ R.locals)
    {pc' : Nat} (hp : pc + 3 = pc') (k : ∀ T', On p l e R s m args below meth c D Z n0 T' A cells slots → Go p e below (T'.setTop (mkF m pc'  Ls st)) G) : Go p e below (T.setTop (mkF m pc Ls (.ref a :: st))) G := by
  subst hp
  obtain ⟨locs, X, N, RA⟩ := X
  obtain ⟨T', X', e', stp⟩ := initO X K.1 K.2.1 K.2.2.1 (wd K w1) (wd K w2) (wd K w3) rfl (g := mkF m pc Ls (.ref a :: st)) rfl (hz.trans K.2.2.2.2.1.symm) rfl (dc K hd) hf (W := w) (by simpa [JFrame.monitorRoom] using hw) hl
  exact go stp (k T' ⟨locs, X', N, by rw [e']; exact RA⟩)
theorem calls (K : Cx p l e R s m meth c Z a0 W own nm bytes ml rt) (X : On p l e R s m args below meth c D Z n0 T A cells slots) {i1 i2 i3 i4 idx w : Nat} {y : MethodName} {by' : ByteArray} {ml' : Nat} {rt' : Option FieldType} {rm : Room} {as : List Value} {r : Option Value} {S : List Value} {ps : List FieldType}
    (w1 : W[i1]? = some (.methodLink own idx y)) (w2 : W[i2]? = some (.static y)) (w3 : W[i3]? = some (.initialized y.cls)) (w4 : W[i4]? = some (.code y by' ml' rt')) (hy : y.cls ≠ "java/lang/invoke/MethodHandle" ∧ y.cls ≠ "java/lang/invoke/VarHandle")
    (M : Met l D Z n0 y by' ml' rt' rm as A r A') (hpd : parseMethodDescriptor y.desc = some ⟨ps, rt'⟩) (hlen : as.length = ps.length) (hd : decode bytes pc = .ok (.invokestatic idx, 3)) (hz : Ls.size = ml) (hS : S = as.reverse ++ st)
    (hf : rm.frames + 1 ≤ R.frames) (hw : (st.map fun v => v.category).sum ≤ w) (hl : w + (ml' + 11) + rm.locals ≤ R.locals) (hc : cells + rm.cells ≤ R.cells) (hs : slots + rm.slots ≤ R.slots)
    {pc' kc ks : Nat} {S' : List Value} (ec : cells + rm.cells = kc) (es : slots + rm.slots = ks) (hS' : r.toList ++ st = S') (hp : pc + 3 = pc') (k : ∀ T', On p l e R s m args below meth c D Z n0 T' A' kc ks → Go p e below (T'.setTop (mkF m pc' Ls S')) G) : Go p e below (T.setTop (mkF m pc Ls S)) G := by
  subst hp ec es hS'
  obtain ⟨locs, X, N, RA⟩ := X
  obtain ⟨v, vm, ⟨T', L', k', n'⟩, -, X', ⟨Lc, hQ, q1, q2, q3⟩, stp⟩ := Jvm.LawKit.callS X K.1 K.2.2.1 (mvT K.2.1 (wd K w1)) (mvT K.2.1 (wd K w2)) (mvT K.2.1 (wd K w3)) (mvT K.2.1 (wd K w4)) hy
    (backOf (W := w) (M [] T.heap RA) K.2.1 (wd K w4) (wd K w3) hf hl) (g := mkF m pc Ls S) rfl (hz.trans K.2.2.2.2.1.symm) (argsL := as) (rest := st) (lenOf hpd hlen) hS (by simpa [JFrame.monitorRoom] using hw) (dc K hd) (fun _ _ => ⟨rfl, rfl, hc, hs⟩)
  dsimp only [Pt.U, Pt.locs, Pt.cells, Pt.slots] at X' q1 q2 q3 hQ stp
  subst q1 q2 q3
  obtain ⟨rfl, N', RA'⟩ := hQ
  exact go stp (k T' ⟨_, X', Fr.app N N', RA'⟩)
theorem calli (K : Cx p l e R s m meth c Z a0 W own nm bytes ml rt) (X : On p l e R s m args below meth c D Z n0 T A cells slots) {i1 i2 i3 i4 idx w : Nat} {y : MethodName} {by' : ByteArray} {ml' : Nat} {rm : Room} {a : Addr} {as : List Value} {S : List Value} {ps : List FieldType}
    (w1 : W[i1]? = some (.methodLink own idx y)) (w2 : W[i2]? = some (.instanceMethod y)) (w3 : W[i3]? = some (.initialized y.cls)) (w4 : W[i4]? = some (.code y by' ml' none)) (hy1 : y.name = "<init>") (hy : y.cls ≠ "java/lang/invoke/MethodHandle" ∧ y.cls ≠ "java/lang/invoke/VarHandle")
    (M : Met l D Z n0 y by' ml' none rm (.ref a :: as) A none A') (hpd : parseMethodDescriptor y.desc = some ⟨ps, none⟩) (hlen : as.length = ps.length) (hd : decode bytes pc = .ok (.invokespecial idx, 3)) (hz : Ls.size = ml) (hS : S = as.reverse ++ .ref a :: st)
    (hf : rm.frames + 1 ≤ R.frames) (hw : (st.map fun v => v.category).sum ≤ w) (hl : w + (ml' + 11) + rm.locals ≤ R.locals) (hc : cells + rm.cells ≤ R.cells) (hs : slots + rm.slots ≤ R.slots)
    {pc' kc ks : Nat} (ec : cells + rm.cells = kc) (es : slots + rm.slots = ks) (hp : pc + 3 = pc') (k : ∀ T', On p l e R s m args below meth c D Z n0 T' A' kc ks → Go p e below (T'.setTop (mkF m pc'  Ls st)) G) : Go p e below (T.setTop (mkF m pc Ls S)) G := by
  subst hp ec es
  obtain ⟨locs, X, N, RA⟩ := X
  obtain ⟨v, vm, ⟨T', L', k', n'⟩, -, X', ⟨Lc, hQ, q1, q2, q3⟩, stp⟩ := X.specialBack K.1 hy1 K.2.2.1 (mvT K.2.1 (wd K w1)) (mvT K.2.1 (wd K w2)) (mvT K.2.1 (wd K w4)) hy
    (backOf (W := w) (M [] T.heap RA) K.2.1 (wd K w4) (wd K w3) hf hl) (g := mkF m pc Ls S) rfl (hz.trans K.2.2.2.2.1.symm) (Steps.refl _) (a := a) (argsL := as) (rest := st) (lenOf hpd hlen) hS (by simpa [JFrame.monitorRoom] using hw) (dc K hd) (fun _ _ => ⟨rfl, rfl, hc, hs⟩)
  dsimp only [Pt.U, Pt.locs, Pt.cells, Pt.slots] at X' q1 q2 q3 hQ stp
  subst q1 q2 q3
  obtain ⟨rfl, N', RA'⟩ := hQ
  exact go (fun _ q => stp.trans q) (k T' ⟨_, X', Fr.app N N', RA'⟩)
theorem callv (K : Cx p l e R s m meth c Z a0 W own nm bytes ml rt) (X : On p l e R s m args below meth c D Z n0 T A cells slots) {i1 i2 i3 i4 i5 i6 idx w t a : Nat} {u : Unit} {y : MethodName} {by' : ByteArray} {ml' : Nat} {rt' : Option FieldType} {rm : Room} {as : List Value} {r : Option Value} {S : List Value} {ps : List FieldType}
    (w1 : W[i1]? = some (.methodLink own idx y)) (w2 : W[i2]? = some (.declares y)) (w5 : W[i5]? = some (.selects (D t).1 y y)) (w6 : W[i6]? = some (.instanceMethod y)) (w3 : W[i3]? = some (.initialized y.cls)) (w4 : W[i4]? = some (.code y by' ml' rt')) (hy : y.cls ≠ "java/lang/invoke/MethodHandle" ∧ y.cls ≠ "java/lang/invoke/VarHandle")
    (ht : 10 ≤ t) (hA : h_isA A t a = some u) (M : Met l D Z n0 y by' ml' rt' rm (.ref (n0 + a) :: as) A r A') (hpd : parseMethodDescriptor y.desc = some ⟨ps, rt'⟩) (hlen : as.length = ps.length) (hd : decode bytes pc = .ok (.invokevirtual idx, 3)) (hz : Ls.size = ml) (hS : S = as.reverse ++ .ref (n0 + a) :: st)
    (hf : rm.frames + 1 ≤ R.frames) (hw : (st.map fun v => v.category).sum ≤ w) (hl : w + (ml' + 11) + rm.locals ≤ R.locals) (hc : cells + rm.cells ≤ R.cells) (hs : slots + rm.slots ≤ R.slots)
    {pc' kc ks : Nat} {S' : List Value} (ec : cells + rm.cells = kc) (es : slots + rm.slots = ks) (hS' : r.toList ++ st = S') (hp : pc + 3 = pc') (k : ∀ T', On p l e R s m args below meth c D Z n0 T' A' kc ks → Go p e below (T'.setTop (mkF m pc' Ls S')) G) : Go p e below (T.setTop (mkF m pc Ls S)) G := by
  subst hp ec es hS'
  obtain ⟨locs, X, N, RA⟩ := X
  obtain ⟨vs, hA⟩ := isA_s hA
  obtain ⟨cq, kq, q1, q2, q3⟩ := isOf K.2.1 rfl (RA.exa ht hA)
  obtain ⟨v, vm, ⟨T', L', k', n'⟩, -, X', ⟨Lc, hQ, q1, q2, q3⟩, stp⟩ := X.virtualBack K.1 (y := y) (z := y) K.2.2.1 (mvT K.2.1 (wd K w1)) (mvT K.2.1 (wd K w2)) (notFace_of_selects (args := #[]) (mvT K.2.1 (wd K w5))) (mvT K.2.1 (wd K w5)) (mvT K.2.1 (wd K w6)) hy
    (backOf (W := w) (M [] T.heap RA) K.2.1 (wd K w4) (wd K w3) hf hl) q1 q3 (g := mkF m pc Ls S) rfl (hz.trans K.2.2.2.2.1.symm) (Steps.refl _) (argsL := as) (rest := st) (lenOf hpd hlen) hS (by simpa [JFrame.monitorRoom] using hw) (dc K hd) (fun _ _ => ⟨rfl, rfl, hc, hs⟩)
  dsimp only [Pt.U, Pt.locs, Pt.cells, Pt.slots] at X' q1 q2 q3 hQ stp
  subst q1 q2 q3
  obtain ⟨rfl, N', RA'⟩ := hQ
  exact go (fun _ q => stp.trans q) (k T' ⟨_, X', Fr.app N N', RA'⟩)
theorem callp (K : Cx p l e R s m meth c Z a0 W own nm bytes ml rt) (X : On p l e R s m args below meth c D Z n0 T A cells slots) {i1 i2 i3 i4 i5 i6 idx w t a kk : Nat} {u : Unit} {y : MethodName} {by' : ByteArray} {ml' : Nat} {rt' : Option FieldType} {rm : Room} {as : List Value} {r : Option Value} {S : List Value} {ps : List FieldType}
    (w1 : W[i1]? = some (.methodLink own idx y)) (w2 : W[i2]? = some (.privateMethod y)) (w5 : W[i5]? = some (.instantiable y.cls kk)) (w6 : W[i6]? = some (.instanceMethod y)) (w3 : W[i3]? = some (.initialized y.cls)) (w4 : W[i4]? = some (.code y by' ml' rt')) (hy : y.cls ≠ "java/lang/invoke/MethodHandle" ∧ y.cls ≠ "java/lang/invoke/VarHandle")
    (ht : 10 ≤ t) (hA : h_isA A t a = some u) (M : Met l D Z n0 y by' ml' rt' rm (.ref (n0 + a) :: as) A r A') (hpd : parseMethodDescriptor y.desc = some ⟨ps, rt'⟩) (hlen : as.length = ps.length) (hd : decode bytes pc = .ok (.invokevirtual idx, 3)) (hz : Ls.size = ml) (hS : S = as.reverse ++ .ref (n0 + a) :: st)
    (hf : rm.frames + 1 ≤ R.frames) (hw : (st.map fun v => v.category).sum ≤ w) (hl : w + (ml' + 11) + rm.locals ≤ R.locals) (hc : cells + rm.cells ≤ R.cells) (hs : slots + rm.slots ≤ R.slots)
    {pc' kc ks : Nat} {S' : List Value} (ec : cells + rm.cells = kc) (es : slots + rm.slots = ks) (hS' : r.toList ++ st = S') (hp : pc + 3 = pc') (k : ∀ T', On p l e R s m args below meth c D Z n0 T' A' kc ks → Go p e below (T'.setTop (mkF m pc' Ls S')) G) : Go p e below (T.setTop (mkF m pc Ls S)) G := by
  subst hp ec es hS'
  obtain ⟨locs, X, N, RA⟩ := X
  obtain ⟨vs, hA⟩ := isA_s hA
  obtain ⟨cq, q1, q2⟩ := (RA.exa ht hA).cell
  have wi : (Jvm.Cond.instantiable y.cls kk).before #[] s = true := mvT K.2.1 (wd K w5)
  obtain ⟨c0, k0, i1, i2, i3, i4, -⟩ := Cond.instantiable_spec wi
  have hni : k0.isInterface = false := (Bool.or_eq_false_iff.mp i4).1
  have hpr : s.PrivateAt y := Cond.privateMethod_at (mvP K.2.1 (wd K w2) (args := #[]))
  have hin : (Jvm.Cond.instanceMethod y).before args s = true := mvT K.2.1 (wd K w6)
  obtain ⟨v, vm, ⟨T', L', k', n'⟩, -, X', ⟨Lc, hQ, q1, q2, q3⟩, stp⟩ := X.privateBack K.1 (y := y) K.2.2.1 (mvT K.2.1 (wd K w1)) hin (selects_self_of_private i1 i2 hni hpr hin hy) hpr (mvT K.2.1 (wd K w4)) hy
    (backOf (W := w) (M [] T.heap RA) K.2.1 (wd K w4) (wd K w3) hf hl) (g := mkF m pc Ls S) rfl (hz.trans K.2.2.2.2.1.symm) (Steps.refl _) (a := n0 + a) q1 q2 (argsL := as) (rest := st) (lenOf hpd hlen) hS (by simpa [JFrame.monitorRoom] using hw) (dc K hd) (fun _ _ => ⟨rfl, rfl, hc, hs⟩)
  dsimp only [Pt.U, Pt.locs, Pt.cells, Pt.slots] at X' q1 q2 q3 hQ stp
  subst q1 q2 q3
  obtain ⟨rfl, N', RA'⟩ := hQ
  exact go (fun _ q => stp.trans q) (k T' ⟨_, X', Fr.app N N', RA'⟩)
/-! a body by its blocks -/
theorem met {y : MethodName} {as : List Value} {r : Option Value} {L0 : Array Slot} (hp : plainFor y = true) (hw : ∀ d ∈ W, d.before a0 Z = true) (hn : y.cls = own) (hnn : y.name = nm) (hef : ∀ m, entryFrame m as.toArray ml = mkF m 0 L0 [])
    (hb : ∀ (p : Program) (e : Env) (s : State) (m : MethodId) (below : List Frame) (meth : Method) (c : Code) (T : State), Cx p l e R s m meth c Z a0 W own nm bytes ml rt → On p l e R s m as.toArray below meth c D Z n0 T A 0 0 → Go p e below (T.setTop (mkF m 0 L0 [])) (Fini D Z n0 s R r A')) :
    Met l D Z n0 y bytes ml rt R as A r A' := by
  intro ws h0 RA
  refine MetFree.of_bodySF hp hisR ?_
  intro p e s m args below meth c s₁ Bd hml0 hP hK
  obtain ⟨rfl, hZ, hh⟩ := hP
  have hown : s.vm.findClass own = some m.cls := hn ▸ findClass_of_methodNamed Bd.named
  have hnm := (name_of_methodNamed Bd.named Bd.method).1
  have X0 : Stand p l e R s m as.toArray below meth c s₁ [] 0 0 := Stand.of_body Bd
  have e0 : s₁.heap = h0 := by rw [← hh, Bd.state]; rfl
  have := hb p e s m below meth c s₁ ⟨Bd.exec, hZ, hown, Bd.bytes, hml0, Bd.returns, Bd.notSynchronized, hnm.trans hnn, hw⟩ ⟨[], X0, Fr.nil n0, by rw [e0]; exact RA⟩
  obtain ⟨t, o, h1, h2, h3, h4⟩ := this
  exact ⟨t, o, castTop (hef m) h1, h2, h3, h4⟩
end Walk
end Jvm.OwnKit
namespace Jvm.OwnKit
open Sem ClassFile Op Lib Jvm.Stand Jvm.Free Jvm.LawKit Jvm.RoadKit
section Instr
variable {p : Program} {l : Launch} {e : Env} {R : Room} {s : State} {m : MethodId} {args : Array Value} {below : List Frame} {meth : Method} {c : Code} {Z : State} {a0 : Array Value} {W : List Jvm.Cond} {own nm : String} {bytes : ByteArray} {ml : Nat} {rt : Option FieldType} {D : Dic} {n0 : Nat} {T : State} {A A' : AH} {cells slots : Nat} {G : Outcome → State → Prop} {pc : Nat} {Ls : Array Slot} {st : List Value}
theorem i_iadd (K : Cx p l e R s m meth c Z a0 W own nm bytes ml rt) (X : On p l e R s m args below meth c D Z n0 T A cells slots) {x y : Int32} {pc' : Nat} (hd : decode bytes pc = .ok (.iadd, 1)) (hp : pc + 1 = pc')
    (k : Go p e below (T.setTop (mkF m pc' Ls (.int (x + y) :: st))) G) : Go p e below (T.setTop (mkF m pc Ls (.int y :: .int x :: st))) G := by
  subst hp; exact go (fun _ => XS.iadd X.here K.1 (g := mkF m pc Ls (.int y :: .int x :: st)) rfl (dc K hd) rfl) k
theorem i_isub (K : Cx p l e R s m meth c Z a0 W own nm bytes ml rt) (X : On p l e R s m args below meth c D Z n0 T A cells slots) {x y : Int32} {pc' : Nat} (hd : decode bytes pc = .ok (.isub, 1)) (hp : pc + 1 = pc')
    (k : Go p e below (T.setTop (mkF m pc' Ls (.int (x - y) :: st))) G) : Go p e below (T.setTop (mkF m pc Ls (.int y :: .int x :: st))) G := by
  subst hp; exact go (fun _ => XS.isub X.here K.1 (g := mkF m pc Ls (.int y :: .int x :: st)) rfl (dc K hd) rfl) k
theorem i_imul (K : Cx p l e R s m meth c Z a0 W own nm bytes ml rt) (X : On p l e R s m args below meth c D Z n0 T A cells slots) {x y : Int32} {pc' : Nat} (hd : decode bytes pc = .ok (.imul, 1)) (hp : pc + 1 = pc')
    (k : Go p e below (T.setTop (mkF m pc' Ls (.int (x * y) :: st))) G) : Go p e below (T.setTop (mkF m pc Ls (.int y :: .int x :: st))) G := by
  subst hp; exact go (fun _ => XS.imul X.here K.1 (g := mkF m pc Ls (.int y :: .int x :: st)) rfl (dc K hd) rfl) k
theorem i_iand (K : Cx p l e R s m meth c Z a0 W own nm bytes ml rt) (X : On p l e R s m args below meth c D Z n0 T A cells slots) {x y : Int32} {pc' : Nat} (hd : decode bytes pc = .ok (.iand, 1)) (hp : pc + 1 = pc')
    (k : Go p e below (T.setTop (mkF m pc' Ls (.int (x &&& y) :: st))) G) : Go p e below (T.setTop (mkF m pc Ls (.int y :: .int x :: st))) G := by
  subst hp; exact go (fun _ => XS.iand X.here K.1 (g := mkF m pc Ls (.int y :: .int x :: st)) rfl (dc K hd) rfl) k
theorem i_ior (K : Cx p l e R s m meth c Z a0 W own nm bytes ml rt) (X : On p l e R s m args below meth c D Z n0 T A cells slots) {x y : Int32} {pc' : Nat} (hd : decode bytes pc = .ok (.ior, 1)) (hp : pc + 1 = pc')
    (k : Go p e below (T.setTop (mkF m pc' Ls (.int (x ||| y) :: st))) G) : Go p e below (T.setTop (mkF m pc Ls (.int y :: .int x :: st))) G := by
  subst hp; exact go (fun _ => XS.ior X.here K.1 (g := mkF m pc Ls (.int y :: .int x :: st)) rfl (dc K hd) rfl) k
theorem i_ixor (K : Cx p l e R s m meth c Z a0 W own nm bytes ml rt) (X : On p l e R s m args below meth c D Z n0 T A cells slots) {x y : Int32} {pc' : Nat} (hd : decode bytes pc = .ok (.ixor, 1)) (hp : pc + 1 = pc')
    (k : Go p e below (T.setTop (mkF m pc' Ls (.int (x ^^^ y) :: st))) G) : Go p e below (T.setTop (mkF m pc Ls (.int y :: .int x :: st))) G := by
  subst hp; exact go (fun _ => XS.ixor X.here K.1 (g := mkF m pc Ls (.int y :: .int x :: st)) rfl (dc K hd) rfl) k
theorem i_ishl (K : Cx p l e R s m meth c Z a0 W own nm bytes ml rt) (X : On p l e R s m args below meth c D Z n0 T A cells slots) {x y : Int32} {pc' : Nat} (hd : decode bytes pc = .ok (.ishl, 1)) (hp : pc + 1 = pc')
    (k : Go p e below (T.setTop (mkF m pc' Ls (.int (x <<< (y &&& 31)) :: st))) G) : Go p e below (T.setTop (mkF m pc Ls (.int y :: .int x :: st))) G := by
  subst hp; exact go (fun _ => XS.ishl X.here K.1 (g := mkF m pc Ls (.int y :: .int x :: st)) rfl (dc K hd) rfl) k
theorem i_ishr (K : Cx p l e R s m meth c Z a0 W own nm bytes ml rt) (X : On p l e R s m args below meth c D Z n0 T A cells slots) {x y : Int32} {pc' : Nat} (hd : decode bytes pc = .ok (.ishr, 1)) (hp : pc + 1 = pc')
    (k : Go p e below (T.setTop (mkF m pc' Ls (.int (x >>> (y &&& 31)) :: st))) G) : Go p e below (T.setTop (mkF m pc Ls (.int y :: .int x :: st))) G := by
  subst hp; exact go (fun _ => XS.ishr X.here K.1 (g := mkF m pc Ls (.int y :: .int x :: st)) rfl (dc K hd) rfl) k
theorem i_iushr (K : Cx p l e R s m meth c Z a0 W own nm bytes ml rt) (X : On p l e R s m args below meth c D Z n0 T A cells slots) {x y : Int32} {pc' : Nat} (hd : decode bytes pc = .ok (.iushr, 1)) (hp : pc + 1 = pc')
    (k : Go p e below (T.setTop (mkF m pc' Ls (.int ((x.toUInt32 >>> (y &&& 31).toUInt32).toInt32) :: st))) G) : Go p e below (T.setTop (mkF m pc Ls (.int y :: .int x :: st))) G := by
  subst hp; exact go (fun _ => XS.iushr X.here K.1 (g := mkF m pc Ls (.int y :: .int x :: st)) rfl (dc K hd) rfl) k
theorem i_idiv (K : Cx p l e R s m meth c Z a0 W own nm bytes ml rt) (X : On p l e R s m args below meth c D Z n0 T A cells slots) {x y : Int32} {pc' : Nat} (hd : decode bytes pc = .ok (.idiv, 1)) (hp : pc + 1 = pc') (hy : y ≠ 0)
    (k : Go p e below (T.setTop (mkF m pc' Ls (.int (x / y) :: st))) G) : Go p e below (T.setTop (mkF m pc Ls (.int y :: .int x :: st))) G := by
  subst hp; exact go (fun _ => XS.idiv X.here K.1 (g := mkF m pc Ls (.int y :: .int x :: st)) rfl (dc K hd) rfl hy) k
theorem i_irem (K : Cx p l e R s m meth c Z a0 W own nm bytes ml rt) (X : On p l e R s m args below meth c D Z n0 T A cells slots) {x y : Int32} {pc' : Nat} (hd : decode bytes pc = .ok (.irem, 1)) (hp : pc + 1 = pc') (hy : y ≠ 0)
    (k : Go p e below (T.setTop (mkF m pc' Ls (.int (x % y) :: st))) G) : Go p e below (T.setTop (mkF m pc Ls (.int y :: .int x :: st))) G := by
  subst hp; rw [← irem_eq_mod] at k; exact go (fun _ => XS.irem X.here K.1 (g := mkF m pc Ls (.int y :: .int x :: st)) rfl (dc K hd) rfl hy) k
theorem i_ladd (K : Cx p l e R s m meth c Z a0 W own nm bytes ml rt) (X : On p l e R s m args below meth c D Z n0 T A cells slots) {x y : Int64} {pc' : Nat} (hd : decode bytes pc = .ok (.ladd, 1)) (hp : pc + 1 = pc')
    (k : Go p e below (T.setTop (mkF m pc' Ls (.long (x + y) :: st))) G) : Go p e below (T.setTop (mkF m pc Ls (.long y :: .long x :: st))) G := by
  subst hp; exact go (fun _ => XS.ladd X.here K.1 (g := mkF m pc Ls (.long y :: .long x :: st)) rfl (dc K hd) rfl) k
theorem i_lsub (K : Cx p l e R s m meth c Z a0 W own nm bytes ml rt) (X : On p l e R s m args below meth c D Z n0 T A cells slots) {x y : Int64} {pc' : Nat} (hd : decode bytes pc = .ok (.lsub, 1)) (hp : pc + 1 = pc')
    (k : Go p e below (T.setTop (mkF m pc' Ls (.long (x - y) :: st))) G) : Go p e below (T.setTop (mkF m pc Ls (.long y :: .long x :: st))) G := by
  subst hp; exact go (fun _ => XS.lsub X.here K.1 (g := mkF m pc Ls (.long y :: .long x :: st)) rfl (dc K hd) rfl) k
theorem i_lmul (K : Cx p l e R s m meth c Z a0 W own nm bytes ml rt) (X : On p l e R s m args below meth c D Z n0 T A cells slots) {x y : Int64} {pc' : Nat} (hd : decode bytes pc = .ok (.lmul, 1)) (hp : pc + 1 = pc')
    (k : Go p e below (T.setTop (mkF m pc' Ls (.long (x * y) :: st))) G) : Go p e below (T.setTop (mkF m pc Ls (.long y :: .long x :: st))) G := by
  subst hp; exact go (fun _ => XS.lmul X.here K.1 (g := mkF m pc Ls (.long y :: .long x :: st)) rfl (dc K hd) rfl) k
theorem i_land (K : Cx p l e R s m meth c Z a0 W own nm bytes ml rt) (X : On p l e R s m args below meth c D Z n0 T A cells slots) {x y : Int64} {pc' : Nat} (hd : decode bytes pc = .ok (.land, 1)) (hp : pc + 1 = pc')
    (k : Go p e below (T.setTop (mkF m pc' Ls (.long (x &&& y) :: st))) G) : Go p e below (T.setTop (mkF m pc Ls (.long y :: .long x :: st))) G := by
  subst hp; exact go (fun _ => XS.land X.here K.1 (g := mkF m pc Ls (.long y :: .long x :: st)) rfl (dc K hd) rfl) k
theorem i_lor (K : Cx p l e R s m meth c Z a0 W own nm bytes ml rt) (X : On p l e R s m args below meth c D Z n0 T A cells slots) {x y : Int64} {pc' : Nat} (hd : decode bytes pc = .ok (.lor, 1)) (hp : pc + 1 = pc')
    (k : Go p e below (T.setTop (mkF m pc' Ls (.long (x ||| y) :: st))) G) : Go p e below (T.setTop (mkF m pc Ls (.long y :: .long x :: st))) G := by
  subst hp; exact go (fun _ => XS.lor X.here K.1 (g := mkF m pc Ls (.long y :: .long x :: st)) rfl (dc K hd) rfl) k
theorem i_lxor (K : Cx p l e R s m meth c Z a0 W own nm bytes ml rt) (X : On p l e R s m args below meth c D Z n0 T A cells slots) {x y : Int64} {pc' : Nat} (hd : decode bytes pc = .ok (.lxor, 1)) (hp : pc + 1 = pc')
    (k : Go p e below (T.setTop (mkF m pc' Ls (.long (x ^^^ y) :: st))) G) : Go p e below (T.setTop (mkF m pc Ls (.long y :: .long x :: st))) G := by
  subst hp; exact go (fun _ => XS.lxor X.here K.1 (g := mkF m pc Ls (.long y :: .long x :: st)) rfl (dc K hd) rfl) k
theorem i_lshl (K : Cx p l e R s m meth c Z a0 W own nm bytes ml rt) (X : On p l e R s m args below meth c D Z n0 T A cells slots) {x : Int64} {y : Int32} {pc' : Nat} (hd : decode bytes pc = .ok (.lshl, 1)) (hp : pc + 1 = pc')
    (k : Go p e below (T.setTop (mkF m pc' Ls (.long (x <<< (y &&& 0x3f).toInt64) :: st))) G) : Go p e below (T.setTop (mkF m pc Ls (.int y :: .long x :: st))) G := by
  subst hp; exact go (fun _ => XS.lshl X.here K.1 (g := mkF m pc Ls (.int y :: .long x :: st)) rfl (dc K hd) rfl) k
theorem i_lshr (K : Cx p l e R s m meth c Z a0 W own nm bytes ml rt) (X : On p l e R s m args below meth c D Z n0 T A cells slots) {x : Int64} {y : Int32} {pc' : Nat} (hd : decode bytes pc = .ok (.lshr, 1)) (hp : pc + 1 = pc')
    (k : Go p e below (T.setTop (mkF m pc' Ls (.long (x >>> (y &&& 0x3f).toInt64) :: st))) G) : Go p e below (T.setTop (mkF m pc Ls (.int y :: .long x :: st))) G := by
  subst hp; exact go (fun _ => XS.lshr X.here K.1 (g := mkF m pc Ls (.int y :: .long x :: st)) rfl (dc K hd) rfl) k
theorem i_lushr (K : Cx p l e R s m meth c Z a0 W own nm bytes ml rt) (X : On p l e R s m args below meth c D Z n0 T A cells slots) {x : Int64} {y : Int32} {pc' : Nat} (hd : decode bytes pc = .ok (.lushr, 1)) (hp : pc + 1 = pc')
    (k : Go p e below (T.setTop (mkF m pc' Ls (.long ((x.toUInt64 >>> (y &&& 0x3f).toInt64.toUInt64).toInt64) :: st))) G) : Go p e below (T.setTop (mkF m pc Ls (.int y :: .long x :: st))) G := by
  subst hp; exact go (fun _ => XS.lushr X.here K.1 (g := mkF m pc Ls (.int y :: .long x :: st)) rfl (dc K hd) rfl) k
theorem i_ldiv (K : Cx p l e R s m meth c Z a0 W own nm bytes ml rt) (X : On p l e R s m args below meth c D Z n0 T A cells slots) {x y : Int64} {pc' : Nat} (hd : decode bytes pc = .ok (.ldiv, 1)) (hp : pc + 1 = pc') (hy : y ≠ 0)
    (k : Go p e below (T.setTop (mkF m pc' Ls (.long (x / y) :: st))) G) : Go p e below (T.setTop (mkF m pc Ls (.long y :: .long x :: st))) G := by
  subst hp; exact go (fun _ => XS.ldiv X.here K.1 (g := mkF m pc Ls (.long y :: .long x :: st)) rfl (dc K hd) rfl hy) k
theorem i_lrem (K : Cx p l e R s m meth c Z a0 W own nm bytes ml rt) (X : On p l e R s m args below meth c D Z n0 T A cells slots) {x y : Int64} {pc' : Nat} (hd : decode bytes pc = .ok (.lrem, 1)) (hp : pc + 1 = pc') (hy : y ≠ 0)
    (k : Go p e below (T.setTop (mkF m pc' Ls (.long (x - (x / y) * y) :: st))) G) : Go p e below (T.setTop (mkF m pc Ls (.long y :: .long x :: st))) G := by
  subst hp; exact go (fun _ => XS.lrem X.here K.1 (g := mkF m pc Ls (.long y :: .long x :: st)) rfl (dc K hd) rfl hy) k
theorem i_ineg (K : Cx p l e R s m meth c Z a0 W own nm bytes ml rt) (X : On p l e R s m args below meth c D Z n0 T A cells slots) {x : Int32} {pc' : Nat} (hd : decode bytes pc = .ok (.ineg, 1)) (hp : pc + 1 = pc')
    (k : Go p e below (T.setTop (mkF m pc' Ls (.int (-x) :: st))) G) : Go p e below (T.setTop (mkF m pc Ls (.int x :: st))) G := by
  subst hp; exact go (fun _ => XS.ineg X.here K.1 (g := mkF m pc Ls (.int x :: st)) rfl (dc K hd) rfl) k
theorem i_lneg (K : Cx p l e R s m meth c Z a0 W own nm bytes ml rt) (X : On p l e R s m args below meth c D Z n0 T A cells slots) {x : Int64} {pc' : Nat} (hd : decode bytes pc = .ok (.lneg, 1)) (hp : pc + 1 = pc')
    (k : Go p e below (T.setTop (mkF m pc' Ls (.long (-x) :: st))) G) : Go p e below (T.setTop (mkF m pc Ls (.long x :: st))) G := by
  subst hp; exact go (fun _ => XS.lneg X.here K.1 (g := mkF m pc Ls (.long x :: st)) rfl (dc K hd) rfl) k
theorem i_i2b (K : Cx p l e R s m meth c Z a0 W own nm bytes ml rt) (X : On p l e R s m args below meth c D Z n0 T A cells slots) {x : Int32} {pc' : Nat} (hd : decode bytes pc = .ok (.i2b, 1)) (hp : pc + 1 = pc')
    (k : Go p e below (T.setTop (mkF m pc' Ls (.int (x.toInt8.toInt32) :: st))) G) : Go p e below (T.setTop (mkF m pc Ls (.int x :: st))) G := by
  subst hp; exact go (fun _ => XS.i2b X.here K.1 (g := mkF m pc Ls (.int x :: st)) rfl (dc K hd) rfl) k
theorem i_i2c (K : Cx p l e R s m meth c Z a0 W own nm bytes ml rt) (X : On p l e R s m args below meth c D Z n0 T A cells slots) {x : Int32} {pc' : Nat} (hd : decode bytes pc = .ok (.i2c, 1)) (hp : pc + 1 = pc')
    (k : Go p e below (T.setTop (mkF m pc' Ls (.int (x.toUInt32.toUInt16.toUInt32.toInt32) :: st))) G) : Go p e below (T.setTop (mkF m pc Ls (.int x :: st))) G := by
  subst hp; exact go (fun _ => XS.i2c X.here K.1 (g := mkF m pc Ls (.int x :: st)) rfl (dc K hd) rfl) k
theorem i_i2s (K : Cx p l e R s m meth c Z a0 W own nm bytes ml rt) (X : On p l e R s m args below meth c D Z n0 T A cells slots) {x : Int32} {pc' : Nat} (hd : decode bytes pc = .ok (.i2s, 1)) (hp : pc + 1 = pc')
    (k : Go p e below (T.setTop (mkF m pc' Ls (.int (x.toInt16.toInt32) :: st))) G) : Go p e below (T.setTop (mkF m pc Ls (.int x :: st))) G := by
  subst hp; exact go (fun _ => XS.i2s X.here K.1 (g := mkF m pc Ls (.int x :: st)) rfl (dc K hd) rfl) k
theorem i_i2l (K : Cx p l e R s m meth c Z a0 W own nm bytes ml rt) (X : On p l e R s m args below meth c D Z n0 T A cells slots) {x : Int32} {pc' : Nat} (hd : decode bytes pc = .ok (.i2l, 1)) (hp : pc + 1 = pc')
    (k : Go p e below (T.setTop (mkF m pc' Ls (.long (x.toInt64) :: st))) G) : Go p e below (T.setTop (mkF m pc Ls (.int x :: st))) G := by
  subst hp; exact go (fun _ => XS.i2l X.here K.1 (g := mkF m pc Ls (.int x :: st)) rfl (dc K hd) rfl) k
theorem i_l2i (K : Cx p l e R s m meth c Z a0 W own nm bytes ml rt) (X : On p l e R s m args below meth c D Z n0 T A cells slots) {x : Int64} {pc' : Nat} (hd : decode bytes pc = .ok (.l2i, 1)) (hp : pc + 1 = pc')
    (k : Go p e below (T.setTop (mkF m pc' Ls (.int (x.toInt32) :: st))) G) : Go p e below (T.setTop (mkF m pc Ls (.long x :: st))) G := by
  subst hp; exact go (fun _ => XS.l2i X.here K.1 (g := mkF m pc Ls (.long x :: st)) rfl (dc K hd) rfl) k
theorem i_lcmp (K : Cx p l e R s m meth c Z a0 W own nm bytes ml rt) (X : On p l e R s m args below meth c D Z n0 T A cells slots) {x y : Int64} {pc' : Nat} (hd : decode bytes pc = .ok (.lcmp, 1)) (hp : pc + 1 = pc')
    (k : Go p e below (T.setTop (mkF m pc' Ls (.int (lcmpW x y) :: st))) G) : Go p e below (T.setTop (mkF m pc Ls (.long y :: .long x :: st))) G := by
  subst hp; exact go (fun _ => XS.lcmp X.here K.1 (g := mkF m pc Ls (.long y :: .long x :: st)) rfl (dc K hd) rfl) k
theorem i_pop (K : Cx p l e R s m meth c Z a0 W own nm bytes ml rt) (X : On p l e R s m args below meth c D Z n0 T A cells slots) {x : Value} {pc' : Nat} (hd : decode bytes pc = .ok (.pop, 1)) (hp : pc + 1 = pc') (h1 : x.category = 1)
    (k : Go p e below (T.setTop (mkF m pc' Ls (st))) G) : Go p e below (T.setTop (mkF m pc Ls (x :: st))) G := by
  subst hp; exact go (fun _ => XS.pop X.here K.1 (g := mkF m pc Ls (x :: st)) rfl (dc K hd) rfl h1) k
theorem i_dup (K : Cx p l e R s m meth c Z a0 W own nm bytes ml rt) (X : On p l e R s m args below meth c D Z n0 T A cells slots) {x : Value} {pc' : Nat} (hd : decode bytes pc = .ok (.dup, 1)) (hp : pc + 1 = pc') (h1 : x.category = 1)
    (k : Go p e below (T.setTop (mkF m pc' Ls (x :: x :: st))) G) : Go p e below (T.setTop (mkF m pc Ls (x :: st))) G := by
  subst hp; exact go (fun _ => XS.dup X.here K.1 (g := mkF m pc Ls (x :: st)) rfl (dc K hd) rfl h1) k
theorem i_dupX1 (K : Cx p l e R s m meth c Z a0 W own nm bytes ml rt) (X : On p l e R s m args below meth c D Z n0 T A cells slots) {x y : Value} {pc' : Nat} (hd : decode bytes pc = .ok (.dup_x1, 1)) (hp : pc + 1 = pc') (h1 : x.category = 1) (h2 : y.category = 1)
    (k : Go p e below (T.setTop (mkF m pc' Ls (x :: y :: x :: st))) G) : Go p e below (T.setTop (mkF m pc Ls (x :: y :: st))) G := by
  subst hp; exact go (fun _ => XS.dupX1 X.here K.1 (g := mkF m pc Ls (x :: y :: st)) rfl (dc K hd) rfl h1 h2) k
theorem i_swap (K : Cx p l e R s m meth c Z a0 W own nm bytes ml rt) (X : On p l e R s m args below meth c D Z n0 T A cells slots) {x y : Value} {pc' : Nat} (hd : decode bytes pc = .ok (.swap, 1)) (hp : pc + 1 = pc') (h1 : x.category = 1) (h2 : y.category = 1)
    (k : Go p e below (T.setTop (mkF m pc' Ls (y :: x :: st))) G) : Go p e below (T.setTop (mkF m pc Ls (x :: y :: st))) G := by
  subst hp; exact go (fun _ => XS.swap X.here K.1 (g := mkF m pc Ls (x :: y :: st)) rfl (dc K hd) rfl h1 h2) k
theorem i_iload (K : Cx p l e R s m meth c Z a0 W own nm bytes ml rt) (X : On p l e R s m args below meth c D Z n0 T A cells slots) {v : Int32} {i : Nat} {pc' : Nat} (hd : decode bytes pc = .ok (.iload i, 2)) (hp : pc + 2 = pc') (hl : Ls[i]? = some (.val (.int v)))
    (k : Go p e below (T.setTop (mkF m pc' Ls (.int v :: st))) G) : Go p e below (T.setTop (mkF m pc Ls (st))) G := by
  subst hp; exact go (fun _ => XS.iload X.here K.1 (g := mkF m pc Ls (st)) rfl (dc K hd) hl) k
theorem i_iloadN (K : Cx p l e R s m meth c Z a0 W own nm bytes ml rt) (X : On p l e R s m args below meth c D Z n0 T A cells slots) {v : Int32} {i : Fin 4} {pc' : Nat} (hd : decode bytes pc = .ok (.iload_n i, 1)) (hp : pc + 1 = pc') (hl : Ls[i.val]? = some (.val (.int v)))
    (k : Go p e below (T.setTop (mkF m pc' Ls (.int v :: st))) G) : Go p e below (T.setTop (mkF m pc Ls (st))) G := by
  subst hp; exact go (fun _ => XS.iloadN X.here K.1 (g := mkF m pc Ls (st)) rfl (dc K hd) hl) k
theorem i_lload (K : Cx p l e R s m meth c Z a0 W own nm bytes ml rt) (X : On p l e R s m args below meth c D Z n0 T A cells slots) {v : Int64} {i : Nat} {pc' : Nat} (hd : decode bytes pc = .ok (.lload i, 2)) (hp : pc + 2 = pc') (hl : Ls[i]? = some (.val (.long v)))
    (k : Go p e below (T.setTop (mkF m pc' Ls (.long v :: st))) G) : Go p e below (T.setTop (mkF m pc Ls (st))) G := by
  subst hp; exact go (fun _ => XS.lload X.here K.1 (g := mkF m pc Ls (st)) rfl (dc K hd) hl) k
theorem i_lloadN (K : Cx p l e R s m meth c Z a0 W own nm bytes ml rt) (X : On p l e R s m args below meth c D Z n0 T A cells slots) {v : Int64} {i : Fin 4} {pc' : Nat} (hd : decode bytes pc = .ok (.lload_n i, 1)) (hp : pc + 1 = pc') (hl : Ls[i.val]? = some (.val (.long v)))
    (k : Go p e below (T.setTop (mkF m pc' Ls (.long v :: st))) G) : Go p e below (T.setTop (mkF m pc Ls (st))) G := by
  subst hp; exact go (fun _ => XS.lloadN X.here K.1 (g := mkF m pc Ls (st)) rfl (dc K hd) hl) k
theorem i_aload (K : Cx p l e R s m meth c Z a0 W own nm bytes ml rt) (X : On p l e R s m args below meth c D Z n0 T A cells slots) {v : Value} {i : Nat} {pc' : Nat} (hd : decode bytes pc = .ok (.aload i, 2)) (hp : pc + 2 = pc') (hl : Ls[i]? = some (.val v)) (hv : v.isRef = true)
    (k : Go p e below (T.setTop (mkF m pc' Ls (v :: st))) G) : Go p e below (T.setTop (mkF m pc Ls (st))) G := by
  subst hp; exact go (fun _ => XS.aload X.here K.1 (g := mkF m pc Ls (st)) rfl (dc K hd) hl hv) k
theorem i_aloadN (K : Cx p l e R s m meth c Z a0 W own nm bytes ml rt) (X : On p l e R s m args below meth c D Z n0 T A cells slots) {v : Value} {i : Fin 4} {pc' : Nat} (hd : decode bytes pc = .ok (.aload_n i, 1)) (hp : pc + 1 = pc') (hl : Ls[i.val]? = some (.val v)) (hv : v.isRef = true)
    (k : Go p e below (T.setTop (mkF m pc' Ls (v :: st))) G) : Go p e below (T.setTop (mkF m pc Ls (st))) G := by
  subst hp; exact go (fun _ => XS.aloadN X.here K.1 (g := mkF m pc Ls (st)) rfl (dc K hd) hl hv) k
theorem i_istore (K : Cx p l e R s m meth c Z a0 W own nm bytes ml rt) (X : On p l e R s m args below meth c D Z n0 T A cells slots) {v : Int32} {i : Nat} {Ls' : Array Slot} {pc' : Nat} (hd : decode bytes pc = .ok (.istore i, 2)) (hp : pc + 2 = pc') (hl : storeLocals Ls i (.int v) = some Ls')
    (k : Go p e below (T.setTop (mkF m pc' Ls' (st))) G) : Go p e below (T.setTop (mkF m pc Ls (.int v :: st))) G := by
  subst hp; exact go (fun _ => XS.istore X.here K.1 (g := mkF m pc Ls (.int v :: st)) rfl (dc K hd) rfl hl) k
theorem i_istoreN (K : Cx p l e R s m meth c Z a0 W own nm bytes ml rt) (X : On p l e R s m args below meth c D Z n0 T A cells slots) {v : Int32} {i : Fin 4} {Ls' : Array Slot} {pc' : Nat} (hd : decode bytes pc = .ok (.istore_n i, 1)) (hp : pc + 1 = pc') (hl : storeLocals Ls i.val (.int v) = some Ls')
    (k : Go p e below (T.setTop (mkF m pc' Ls' (st))) G) : Go p e below (T.setTop (mkF m pc Ls (.int v :: st))) G := by
  subst hp; exact go (fun _ => XS.istoreN X.here K.1 (g := mkF m pc Ls (.int v :: st)) rfl (dc K hd) rfl hl) k
theorem i_lstore (K : Cx p l e R s m meth c Z a0 W own nm bytes ml rt) (X : On p l e R s m args below meth c D Z n0 T A cells slots) {v : Int64} {i : Nat} {Ls' : Array Slot} {pc' : Nat} (hd : decode bytes pc = .ok (.lstore i, 2)) (hp : pc + 2 = pc') (hl : storeLocals Ls i (.long v) = some Ls')
    (k : Go p e below (T.setTop (mkF m pc' Ls' (st))) G) : Go p e below (T.setTop (mkF m pc Ls (.long v :: st))) G := by
  subst hp; exact go (fun _ => XS.lstore X.here K.1 (g := mkF m pc Ls (.long v :: st)) rfl (dc K hd) rfl hl) k
theorem i_lstoreN (K : Cx p l e R s m meth c Z a0 W own nm bytes ml rt) (X : On p l e R s m args below meth c D Z n0 T A cells slots) {v : Int64} {i : Fin 4} {Ls' : Array Slot} {pc' : Nat} (hd : decode bytes pc = .ok (.lstore_n i, 1)) (hp : pc + 1 = pc') (hl : storeLocals Ls i.val (.long v) = some Ls')
    (k : Go p e below (T.setTop (mkF m pc' Ls' (st))) G) : Go p e below (T.setTop (mkF m pc Ls (.long v :: st))) G := by
  subst hp; exact go (fun _ => XS.lstoreN X.here K.1 (g := mkF m pc Ls (.long v :: st)) rfl (dc K hd) rfl hl) k
theorem i_astore (K : Cx p l e R s m meth c Z a0 W own nm bytes ml rt) (X : On p l e R s m args below meth c D Z n0 T A cells slots) {v : Value} {i : Nat} {Ls' : Array Slot} {pc' : Nat} (hd : decode bytes pc = .ok (.astore i, 2)) (hp : pc + 2 = pc') (hl : storeLocals Ls i v = some Ls') (hv : v.isRef = true)
    (k : Go p e below (T.setTop (mkF m pc' Ls' (st))) G) : Go p e below (T.setTop (mkF m pc Ls (v :: st))) G := by
  subst hp; exact go (fun _ => XS.astore X.here K.1 (g := mkF m pc Ls (v :: st)) rfl (dc K hd) rfl hv hl) k
theorem i_astoreN (K : Cx p l e R s m meth c Z a0 W own nm bytes ml rt) (X : On p l e R s m args below meth c D Z n0 T A cells slots) {v : Value} {i : Fin 4} {Ls' : Array Slot} {pc' : Nat} (hd : decode bytes pc = .ok (.astore_n i, 1)) (hp : pc + 1 = pc') (hl : storeLocals Ls i.val v = some Ls') (hv : v.isRef = true)
    (k : Go p e below (T.setTop (mkF m pc' Ls' (st))) G) : Go p e below (T.setTop (mkF m pc Ls (v :: st))) G := by
  subst hp; exact go (fun _ => XS.astoreN X.here K.1 (g := mkF m pc Ls (v :: st)) rfl (dc K hd) rfl hv hl) k
theorem i_iconst (K : Cx p l e R s m meth c Z a0 W own nm bytes ml rt) (X : On p l e R s m args below meth c D Z n0 T A cells slots) {i : Int} {v : Int32} {pc' : Nat} (hd : decode bytes pc = .ok (.iconst i, 1)) (hp : pc + 1 = pc') (hv : Int32.ofInt i = v)
    (k : Go p e below (T.setTop (mkF m pc' Ls (.int v :: st))) G) : Go p e below (T.setTop (mkF m pc Ls st)) G := by
  subst hp hv; exact go (fun _ => XS.iconst X.here K.1 (g := mkF m pc Ls st) rfl (dc K hd)) k
theorem i_bipush (K : Cx p l e R s m meth c Z a0 W own nm bytes ml rt) (X : On p l e R s m args below meth c D Z n0 T A cells slots) {i : Int} {v : Int32} {pc' : Nat} (hd : decode bytes pc = .ok (.bipush i, 2)) (hp : pc + 2 = pc') (hv : (Int8.ofInt i).toInt32 = v)
    (k : Go p e below (T.setTop (mkF m pc' Ls (.int v :: st))) G) : Go p e below (T.setTop (mkF m pc Ls st)) G := by
  subst hp hv; exact go (fun _ => XS.bipush X.here K.1 (g := mkF m pc Ls st) rfl (dc K hd)) k
theorem i_sipush (K : Cx p l e R s m meth c Z a0 W own nm bytes ml rt) (X : On p l e R s m args below meth c D Z n0 T A cells slots) {i : Int} {v : Int32} {pc' : Nat} (hd : decode bytes pc = .ok (.sipush i, 3)) (hp : pc + 3 = pc') (hv : (Int16.ofInt i).toInt32 = v)
    (k : Go p e below (T.setTop (mkF m pc' Ls (.int v :: st))) G) : Go p e below (T.setTop (mkF m pc Ls st)) G := by
  subst hp hv; exact go (fun _ => XS.sipush X.here K.1 (g := mkF m pc Ls st) rfl (dc K hd)) k
theorem i_lconst (K : Cx p l e R s m meth c Z a0 W own nm bytes ml rt) (X : On p l e R s m args below meth c D Z n0 T A cells slots) {i : Fin 2} {v : Int64} {pc' : Nat} (hd : decode bytes pc = .ok (.lconst i, 1)) (hp : pc + 1 = pc') (hv : Int64.ofNat i = v)
    (k : Go p e below (T.setTop (mkF m pc' Ls (.long v :: st))) G) : Go p e below (T.setTop (mkF m pc Ls st)) G := by
  subst hp hv; exact go (fun _ => XS.lconst X.here K.1 (g := mkF m pc Ls st) rfl (dc K hd)) k
theorem i_aconstNull (K : Cx p l e R s m meth c Z a0 W own nm bytes ml rt) (X : On p l e R s m args below meth c D Z n0 T A cells slots)  {pc' : Nat} (hd : decode bytes pc = .ok (.aconst_null, 1)) (hp : pc + 1 = pc')
    (k : Go p e below (T.setTop (mkF m pc' Ls (.null :: st))) G) : Go p e below (T.setTop (mkF m pc Ls (st))) G := by
  subst hp; exact go (fun _ => XS.aconstNull X.here K.1 (g := mkF m pc Ls (st)) rfl (dc K hd)) k
theorem i_iinc (K : Cx p l e R s m meth c Z a0 W own nm bytes ml rt) (X : On p l e R s m args below meth c D Z n0 T A cells slots) {x y : Int32} {i : Nat} {cst : Int} {Ls' : Array Slot} {pc' : Nat} (hd : decode bytes pc = .ok (.iinc i cst, 3)) (hp : pc + 3 = pc') (hl : Ls[i]? = some (.val (.int x))) (hy : Int32.ofInt cst = y) (hl' : storeLocals Ls i (.int (x + y)) = some Ls')
    (k : Go p e below (T.setTop (mkF m pc' Ls' st)) G) : Go p e below (T.setTop (mkF m pc Ls st)) G := by
  subst hp hy; exact go (fun _ => XS.iinc X.here K.1 (g := mkF m pc Ls st) rfl (dc K hd) hl hl') k
theorem i_goto (K : Cx p l e R s m meth c Z a0 W own nm bytes ml rt) (X : On p l e R s m args below meth c D Z n0 T A cells slots)  {o : Int} {pc' : Nat} (hd : decode bytes pc = .ok (.goto o, 3))  (ho : 0 ≤ (pc : Int) + o) (hp : ((pc : Int) + o).toNat = pc')
    (k : Go p e below (T.setTop (mkF m pc' Ls st)) G) : Go p e below (T.setTop (mkF m pc Ls (st))) G := by
  exact go (fun _ => XS.goto X.here K.1 (g := mkF m pc Ls (st)) rfl (pc0 := pc) (pc' := pc') rfl (dc K hd)  ho hp) k
theorem i_ifYes (K : Cx p l e R s m meth c Z a0 W own nm bytes ml rt) (X : On p l e R s m args below meth c D Z n0 T A cells slots) {cd : ClassFile.Cond} {x : Int32} {o : Int} {pc' : Nat} (hd : decode bytes pc = .ok (.ifCond cd o, 3)) (h : if_icmp.holds cd x 0 = true) (ho : 0 ≤ (pc : Int) + o) (hp : ((pc : Int) + o).toNat = pc')
    (k : Go p e below (T.setTop (mkF m pc' Ls st)) G) : Go p e below (T.setTop (mkF m pc Ls (.int x :: st))) G := by
  exact go (fun _ => XS.ifYes X.here K.1 (g := mkF m pc Ls (.int x :: st)) rfl (pc0 := pc) (pc' := pc') rfl (dc K hd) rfl ((if0 _ _).trans h) ho hp) k
theorem i_icmpYes (K : Cx p l e R s m meth c Z a0 W own nm bytes ml rt) (X : On p l e R s m args below meth c D Z n0 T A cells slots) {cd : ClassFile.Cond} {x y : Int32} {o : Int} {pc' : Nat} (hd : decode bytes pc = .ok (.if_icmp cd o, 3)) (h : if_icmp.holds cd x y = true) (ho : 0 ≤ (pc : Int) + o) (hp : ((pc : Int) + o).toNat = pc')
    (k : Go p e below (T.setTop (mkF m pc' Ls st)) G) : Go p e below (T.setTop (mkF m pc Ls (.int y :: .int x :: st))) G := by
  exact go (fun _ => XS.icmpYes X.here K.1 (g := mkF m pc Ls (.int y :: .int x :: st)) rfl (pc0 := pc) (pc' := pc') rfl (dc K hd) rfl h ho hp) k
theorem i_ifNo (K : Cx p l e R s m meth c Z a0 W own nm bytes ml rt) (X : On p l e R s m args below meth c D Z n0 T A cells slots) {cd : ClassFile.Cond} {x : Int32} {o : Int} {pc' : Nat} (hd : decode bytes pc = .ok (.ifCond cd o, 3)) (hp : pc + 3 = pc') (h : if_icmp.holds cd x 0 = false)
    (k : Go p e below (T.setTop (mkF m pc' Ls (st))) G) : Go p e below (T.setTop (mkF m pc Ls (.int x :: st))) G := by
  subst hp; exact go (fun _ => XS.ifNo X.here K.1 (g := mkF m pc Ls (.int x :: st)) rfl (dc K hd) rfl ((if0 _ _).trans h)) k
theorem i_icmpNo (K : Cx p l e R s m meth c Z a0 W own nm bytes ml rt) (X : On p l e R s m args below meth c D Z n0 T A cells slots) {cd : ClassFile.Cond} {x y : Int32} {o : Int} {pc' : Nat} (hd : decode bytes pc = .ok (.if_icmp cd o, 3)) (hp : pc + 3 = pc') (h : if_icmp.holds cd x y = false)
    (k : Go p e below (T.setTop (mkF m pc' Ls (st))) G) : Go p e below (T.setTop (mkF m pc Ls (.int y :: .int x :: st))) G := by
  subst hp; exact go (fun _ => XS.icmpNo X.here K.1 (g := mkF m pc Ls (.int y :: .int x :: st)) rfl (dc K hd) rfl h) k
theorem i_ifnullYes (K : Cx p l e R s m meth c Z a0 W own nm bytes ml rt) (X : On p l e R s m args below meth c D Z n0 T A cells slots)  {o : Int} {pc' : Nat} (hd : decode bytes pc = .ok (.ifnull o, 3))  (ho : 0 ≤ (pc : Int) + o) (hp : ((pc : Int) + o).toNat = pc')
    (k : Go p e below (T.setTop (mkF m pc' Ls st)) G) : Go p e below (T.setTop (mkF m pc Ls (.null :: st))) G := by
  exact go (fun _ => XS.ifnullYes X.here K.1 (g := mkF m pc Ls (.null :: st)) rfl (pc0 := pc) (pc' := pc') rfl (dc K hd) rfl ho hp) k
theorem i_ifnullNo (K : Cx p l e R s m meth c Z a0 W own nm bytes ml rt) (X : On p l e R s m args below meth c D Z n0 T A cells slots) {b : Addr} {o : Int} {pc' : Nat} (hd : decode bytes pc = .ok (.ifnull o, 3)) (hp : pc + 3 = pc')
    (k : Go p e below (T.setTop (mkF m pc' Ls (st))) G) : Go p e below (T.setTop (mkF m pc Ls (.ref b :: st))) G := by
  subst hp; exact go (fun _ => XS.ifnullNo X.here K.1 (g := mkF m pc Ls (.ref b :: st)) rfl (dc K hd) rfl) k
theorem i_ifnonnullYes (K : Cx p l e R s m meth c Z a0 W own nm bytes ml rt) (X : On p l e R s m args below meth c D Z n0 T A cells slots) {b : Addr} {o : Int} {pc' : Nat} (hd : decode bytes pc = .ok (.ifnonnull o, 3))  (ho : 0 ≤ (pc : Int) + o) (hp : ((pc : Int) + o).toNat = pc')
    (k : Go p e below (T.setTop (mkF m pc' Ls st)) G) : Go p e below (T.setTop (mkF m pc Ls (.ref b :: st))) G := by
  exact go (fun _ => XS.ifnonnullYes X.here K.1 (g := mkF m pc Ls (.ref b :: st)) rfl (pc0 := pc) (pc' := pc') rfl (dc K hd) rfl ho hp) k
theorem i_ifnonnullNo (K : Cx p l e R s m meth c Z a0 W own nm bytes ml rt) (X : On p l e R s m args below meth c D Z n0 T A cells slots) {o : Int} {pc' : Nat} (hd : decode bytes pc = .ok (.ifnonnull o, 3)) (hp : pc + 3 = pc')
    (k : Go p e below (T.setTop (mkF m pc' Ls (st))) G) : Go p e below (T.setTop (mkF m pc Ls (.null :: st))) G := by
  subst hp; exact go (fun _ => XS.ifnonnullNo X.here K.1 (g := mkF m pc Ls (.null :: st)) rfl (dc K hd) rfl) k
theorem i_dup2 (K : Cx p l e R s m meth c Z a0 W own nm bytes ml rt) (X : On p l e R s m args below meth c D Z n0 T A cells slots) {x y : Value} {pc' : Nat} (hd : decode bytes pc = .ok (.dup2, 1)) (hp : pc + 1 = pc') (h1 : x.category = 1) (h2 : y.category = 1)
    (k : Go p e below (T.setTop (mkF m pc' Ls (x :: y :: x :: y :: st))) G) : Go p e below (T.setTop (mkF m pc Ls (x :: y :: st))) G := by
  subst hp; exact go (fun _ => Jvm.Free.XT.dup2 X.here K.1 (g := mkF m pc Ls (x :: y :: st)) rfl (dc K hd) rfl h1 h2) k
theorem i_dup2L (K : Cx p l e R s m meth c Z a0 W own nm bytes ml rt) (X : On p l e R s m args below meth c D Z n0 T A cells slots) {x : Int64} {pc' : Nat} (hd : decode bytes pc = .ok (.dup2, 1)) (hp : pc + 1 = pc') 
    (k : Go p e below (T.setTop (mkF m pc' Ls (.long x :: .long x :: st))) G) : Go p e below (T.setTop (mkF m pc Ls (.long x :: st))) G := by
  subst hp; exact go (fun _ => Jvm.Free.XT.dup2L X.here K.1 (g := mkF m pc Ls (.long x :: st)) rfl (dc K hd) rfl) k
theorem i_dupX2 (K : Cx p l e R s m meth c Z a0 W own nm bytes ml rt) (X : On p l e R s m args below meth c D Z n0 T A cells slots) {x : Int32} {y : Int32} {z : Addr} {pc' : Nat} (hd : decode bytes pc = .ok (.dup_x2, 1)) (hp : pc + 1 = pc')
    (k : Go p e below (T.setTop (mkF m pc' Ls (.int x :: .int y :: .ref z :: .int x :: st))) G) : Go p e below (T.setTop (mkF m pc Ls (.int x :: .int y :: .ref z :: st))) G := by
  subst hp
  refine go (fun t hk => ?_) k
  have hdc := dc K hd
  jvm_step X.here [X.here.top, K.1, hdc, Value.category]
  exact hk
theorem i_dup2X1 (K : Cx p l e R s m meth c Z a0 W own nm bytes ml rt) (X : On p l e R s m args below meth c D Z n0 T A cells slots) {x : Int64} {z : Addr} {pc' : Nat} (hd : decode bytes pc = .ok (.dup2_x1, 1)) (hp : pc + 1 = pc')
    (k : Go p e below (T.setTop (mkF m pc' Ls (.long x :: .ref z :: .long x :: st))) G) : Go p e below (T.setTop (mkF m pc Ls (.long x :: .ref z :: st))) G := by
  subst hp
  refine go (fun t hk => ?_) k
  have hdc := dc K hd
  jvm_step X.here [X.here.top, K.1, hdc, Value.category]
  exact hk
theorem i_dup2X2 (K : Cx p l e R s m meth c Z a0 W own nm bytes ml rt) (X : On p l e R s m args below meth c D Z n0 T A cells slots) {x : Int64} {y : Int32} {z : Addr} {pc' : Nat} (hd : decode bytes pc = .ok (.dup2_x2, 1)) (hp : pc + 1 = pc')
    (k : Go p e below (T.setTop (mkF m pc' Ls (.long x :: .int y :: .ref z :: .long x :: st))) G) : Go p e below (T.setTop (mkF m pc Ls (.long x :: .int y :: .ref z :: st))) G := by
  subst hp
  refine go (fun t hk => ?_) k
  have hdc := dc K hd
  jvm_step X.here [X.here.top, K.1, hdc, Value.category]
  exact hk
theorem stOne {Ls Ls' : Array Slot} {i : Nat} {v : Value} {o : Slot} (h : One o) (hold : Ls[i]? = some o) (hv : v.category = 1) (e : Ls.setIfInBounds i (.val v) = Ls') : storeLocals Ls i v = some Ls' := by
  rw [← e]; exact XS.store1 hold h hv
theorem bs {α β : Type} {o : Option α} {f : α → Option β} {b : β} (h : o.bind f = some b) : ∃ a, o = some a ∧ f a = some b := Option.bind_eq_some_iff.mp h
end Instr
end Jvm.OwnKit
namespace Jvm.Pilot.@@N@@
open Jvm Jvm.ClassFile Sem Op Lib Jvm.Free Jvm.Stand Jvm.LawKit Jvm.RoadKit Jvm.OwnKit Bundle Jvm.Pilot.@@N@@.Jvm.D
def own_D : Dic
  | _ => ("", [])
theorem own_sep {Z : State} {a0 : Array Value} (hw : ∀ d ∈ tables_1, d.before a0 Z = true) : ∀ t, Sep Z (own_D t).2 := by
  intro t
  unfold own_D
  split
  · exact Sep.nil
section OwnWalk
variable {p : Program} {l : Launch} {e : Env} {s : State} {m : MethodId} {args : Array Value} {below : List Frame} {meth : Method} {c : Code} {Z : State} {a0 : Array Value} {n0 : Nat} {T : State} {A : AH} {cells slots : Nat}
/-! body 1: RadiusCode.hasComputedRequestAuthenticator(I)Z -/
theorem d1_0 : decode prog_36_method_2_code 0 = .ok (.iload_n 0, 1) := by decide +kernel
theorem d1_1 : decode prog_36_method_2_code 1 = .ok (.iconst 4, 1) := by decide +kernel
theorem d1_2 : decode prog_36_method_2_code 2 = .ok (.if_icmp .eq 15, 3) := by decide +kernel
theorem d1_5 : decode prog_36_method_2_code 5 = .ok (.iload_n 0, 1) := by decide +kernel
theorem d1_6 : decode prog_36_method_2_code 6 = .ok (.bipush 40, 2) := by decide +kernel
theorem d1_8 : decode prog_36_method_2_code 8 = .ok (.if_icmp .eq 9, 3) := by decide +kernel
theorem d1_11 : decode prog_36_method_2_code 11 = .ok (.iload_n 0, 1) := by decide +kernel
theorem d1_12 : decode prog_36_method_2_code 12 = .ok (.bipush 43, 2) := by decide +kernel
theorem d1_14 : decode prog_36_method_2_code 14 = .ok (.if_icmp .ne 7, 3) := by decide +kernel
theorem d1_17 : decode prog_36_method_2_code 17 = .ok (.iconst 1, 1) := by decide +kernel
theorem d1_18 : decode prog_36_method_2_code 18 = .ok (.goto 4, 3) := by decide +kernel
theorem d1_21 : decode prog_36_method_2_code 21 = .ok (.iconst 0, 1) := by decide +kernel
theorem d1_22 : decode prog_36_method_2_code 22 = .ok (.ireturn, 1) := by decide +kernel
theorem pd_1 : parseMethodDescriptor "(I)Z" = some ⟨[.int], some .boolean⟩ := by decide +kernel
abbrev own_R1 : Room := { frames := 0, cells := 0, slots := 0, locals := 0 }
def f1_22 (s0 : Int32) : Int32 :=
  (nar .boolean s0)
set_option maxRecDepth 65536 in
set_option maxHeartbeats 4000000 in
theorem w1_22 (K : Cx p l e own_R1 s m meth c Z a0 tables_1 "com/example/sealwire/sealwire/radius/RadiusCode" "hasComputedRequestAuthenticator" prog_36_method_2_code 1 (some .boolean)) (X : On p l e own_R1 s m args below meth c own_D Z n0 T A cells slots) (i0 : Int32) (s0 : Int32) (hc : cells + 0 ≤ 0) (hs : slots + 0 ≤ 0) :
    Go p e below (T.setTop (mkF m 22 #[.val (.int i0)] [(.int s0)])) (Fini own_D Z n0 s own_R1 (some (.int (f1_22 s0))) A) := by
  unfold f1_22
  exact retB K (by simp) X (show cells ≤ 0 by omega) (show slots ≤ 0 by omega) d1_22
def f1_17  : Int32 :=
  f1_22 (1 : Int32)
set_option maxRecDepth 65536 in
set_option maxHeartbeats 4000000 in
theorem w1_17 (K : Cx p l e own_R1 s m meth c Z a0 tables_1 "com/example/sealwire/sealwire/radius/RadiusCode" "hasComputedRequestAuthenticator" prog_36_method_2_code 1 (some .boolean)) (X : On p l e own_R1 s m args below meth c own_D Z n0 T A cells slots) (i0 : Int32) (hc : cells + 0 ≤ 0) (hs : slots + 0 ≤ 0) :
    Go p e below (T.setTop (mkF m 17 #[.val (.int i0)] [])) (Fini own_D Z n0 s own_R1 (some (.int (f1_17 ))) A) := by
  unfold f1_17
  refine i_iconst (pc' := 18) (v := (1 : Int32)) K X d1_17 rfl rfl ?_
  refine i_goto (pc' := 22) K X d1_18 (by decide) (by decide) ?_
  exact w1_22 K X i0 (1 : Int32) (show cells + 0 ≤ 0 by omega) (show slots + 0 ≤ 0 by omega)
def f1_0 (i0 : Int32) : Int32 :=
  if i0 = (4 : Int32) then (f1_17 )
  else (if i0 = (40 : Int32) then (f1_17 )
  else (if i0 = (43 : Int32) then (f1_17 )
  else (f1_22 (0 : Int32))))
set_option maxRecDepth 65536 in
set_option maxHeartbeats 4000000 in
theorem w1_0 (K : Cx p l e own_R1 s m meth c Z a0 tables_1 "com/example/sealwire/sealwire/radius/RadiusCode" "hasComputedRequestAuthenticator" prog_36_method_2_code 1 (some .boolean)) (X : On p l e own_R1 s m args below meth c own_D Z n0 T A cells slots) (i0 : Int32) (hc : cells + 0 ≤ 0) (hs : slots + 0 ≤ 0) :
    Go p e below (T.setTop (mkF m 0 #[.val (.int i0)] [])) (Fini own_D Z n0 s own_R1 (some (.int (f1_0 i0))) A) := by
  unfold f1_0
  refine i_iloadN (pc' := 1) K X d1_0 rfl rfl ?_
  refine i_iconst (pc' := 2) (v := (4 : Int32)) K X d1_1 rfl rfl ?_
  by_cases hc2 : i0 = (4 : Int32)
  · rw [if_pos hc2]
    refine i_icmpYes (pc' := 17) K X d1_2 (teq hc2).1 (by decide) (by decide) ?_
    exact w1_17 K X i0 (show cells + 0 ≤ 0 by omega) (show slots + 0 ≤ 0 by omega)
  · rw [if_neg hc2]
    refine i_icmpNo (pc' := 5) K X d1_2 rfl (feq hc2).1 ?_
    refine i_iloadN (pc' := 6) K X d1_5 rfl rfl ?_
    refine i_bipush (pc' := 8) (v := (40 : Int32)) K X d1_6 rfl rfl ?_
    by_cases hc8 : i0 = (40 : Int32)
    · rw [if_pos hc8]
      refine i_icmpYes (pc' := 17) K X d1_8 (teq hc8).1 (by decide) (by decide) ?_
      exact w1_17 K X i0 (show cells + 0 ≤ 0 by omega) (show slots + 0 ≤ 0 by omega)
    · rw [if_neg hc8]
      refine i_icmpNo (pc' := 11) K X d1_8 rfl (feq hc8).1 ?_
      refine i_iloadN (pc' := 12) K X d1_11 rfl rfl ?_
      refine i_bipush (pc' := 14) (v := (43 : Int32)) K X d1_12 rfl rfl ?_
      by_cases hc14 : i0 = (43 : Int32)
      · rw [if_pos hc14]
        refine i_icmpNo (pc' := 17) K X d1_14 rfl (teq hc14).2 ?_
        exact w1_17 K X i0 (show cells + 0 ≤ 0 by omega) (show slots + 0 ≤ 0 by omega)
      · rw [if_neg hc14]
        refine i_icmpYes (pc' := 21) K X d1_14 (feq hc14).2 (by decide) (by decide) ?_
        refine i_iconst (pc' := 22) (v := (0 : Int32)) K X d1_21 rfl rfl ?_
        exact w1_22 K X i0 (0 : Int32) (show cells + 0 ≤ 0 by omega) (show slots + 0 ≤ 0 by omega)
theorem pn_1 : plainName "com/example/sealwire/sealwire/radius/RadiusCode" = true := by first | (simp [plainName, overriddenIn]; done) | decide +kernel
theorem rm1 {l : Launch} {Z : State} {a0 : Array Value} {n0 : Nat} (hw : ∀ d ∈ tables_1, d.before a0 Z = true) (A : AH) (i0 : Int32) :
    Met l own_D Z n0 (⟨"com/example/sealwire/sealwire/radius/RadiusCode", "hasComputedRequestAuthenticator", "(I)Z"⟩ : MethodName) prog_36_method_2_code 1 (some .boolean) own_R1 [(.int i0)] A (some (.int (f1_0 i0))) A :=
  met (W := tables_1) (a0 := a0) (own := "com/example/sealwire/sealwire/radius/RadiusCode") (nm := "hasComputedRequestAuthenticator") (L0 := #[.val (.int i0)]) (plainFor_of_name pn_1) hw rfl rfl (fun m => by first | (simp [entryFrame, mkF, argsToLocals, Value.category]; done) | rfl) (fun p e s m below meth c T K X => w1_0 K X i0 (show 0 + 0 ≤ 0 by decide) (show 0 + 0 ≤ 0 by decide))
/-! body 2: RadiusCodeHasComputedRequestAuthenticatorPinLaw.expected(I)Z -/
theorem d2_0 : decode method_2_code 0 = .ok (.iload_n 0, 1) := by decide +kernel
theorem d2_1 : decode method_2_code 1 = .ok (.iconst 4, 1) := by decide +kernel
theorem d2_2 : decode method_2_code 2 = .ok (.if_icmp .ne 5, 3) := by decide +kernel
theorem d2_5 : decode method_2_code 5 = .ok (.iconst 1, 1) := by decide +kernel
theorem d2_6 : decode method_2_code 6 = .ok (.ireturn, 1) := by decide +kernel
theorem d2_7 : decode method_2_code 7 = .ok (.iload_n 0, 1) := by decide +kernel
theorem d2_8 : decode method_2_code 8 = .ok (.bipush 40, 2) := by decide +kernel
theorem d2_10 : decode method_2_code 10 = .ok (.if_icmp .ne 5, 3) := by decide +kernel
theorem d2_13 : decode method_2_code 13 = .ok (.iconst 1, 1) := by decide +kernel
theorem d2_14 : decode method_2_code 14 = .ok (.ireturn, 1) := by decide +kernel
theorem d2_15 : decode method_2_code 15 = .ok (.iload_n 0, 1) := by decide +kernel
theorem d2_16 : decode method_2_code 16 = .ok (.bipush 43, 2) := by decide +kernel
theorem d2_18 : decode method_2_code 18 = .ok (.if_icmp .ne 5, 3) := by decide +kernel
theorem d2_21 : decode method_2_code 21 = .ok (.iconst 1, 1) := by decide +kernel
theorem d2_22 : decode method_2_code 22 = .ok (.ireturn, 1) := by decide +kernel
theorem d2_23 : decode method_2_code 23 = .ok (.iconst 0, 1) := by decide +kernel
theorem d2_24 : decode method_2_code 24 = .ok (.ireturn, 1) := by decide +kernel
theorem pd_2 : parseMethodDescriptor "(I)Z" = some ⟨[.int], some .boolean⟩ := by decide +kernel
abbrev own_R2 : Room := { frames := 0, cells := 0, slots := 0, locals := 0 }
def f2_0 (i0 : Int32) : Int32 :=
  if i0 = (4 : Int32) then ((nar .boolean (1 : Int32)))
  else (if i0 = (40 : Int32) then ((nar .boolean (1 : Int32)))
  else (if i0 = (43 : Int32) then ((nar .boolean (1 : Int32)))
  else ((nar .boolean (0 : Int32)))))
set_option maxRecDepth 65536 in
set_option maxHeartbeats 4000000 in
theorem w2_0 (K : Cx p l e own_R2 s m meth c Z a0 tables_1 "com/example/sealwire/sealwire/radius/RadiusCodeHasComputedRequestAuthenticatorPinLaw" "expected" method_2_code 1 (some .boolean)) (X : On p l e own_R2 s m args below meth c own_D Z n0 T A cells slots) (i0 : Int32) (hc : cells + 0 ≤ 0) (hs : slots + 0 ≤ 0) :
    Go p e below (T.setTop (mkF m 0 #[.val (.int i0)] [])) (Fini own_D Z n0 s own_R2 (some (.int (f2_0 i0))) A) := by
  unfold f2_0
  refine i_iloadN (pc' := 1) K X d2_0 rfl rfl ?_
  refine i_iconst (pc' := 2) (v := (4 : Int32)) K X d2_1 rfl rfl ?_
  by_cases hc2 : i0 = (4 : Int32)
  · rw [if_pos hc2]
    refine i_icmpNo (pc' := 5) K X d2_2 rfl (teq hc2).2 ?_
    refine i_iconst (pc' := 6) (v := (1 : Int32)) K X d2_5 rfl rfl ?_
    exact retB K (by simp) X (show cells ≤ 0 by omega) (show slots ≤ 0 by omega) d2_6
  · rw [if_neg hc2]
    refine i_icmpYes (pc' := 7) K X d2_2 (feq hc2).2 (by decide) (by decide) ?_
    refine i_iloadN (pc' := 8) K X d2_7 rfl rfl ?_
    refine i_bipush (pc' := 10) (v := (40 : Int32)) K X d2_8 rfl rfl ?_
    by_cases hc10 : i0 = (40 : Int32)
    · rw [if_pos hc10]
      refine i_icmpNo (pc' := 13) K X d2_10 rfl (teq hc10).2 ?_
      refine i_iconst (pc' := 14) (v := (1 : Int32)) K X d2_13 rfl rfl ?_
      exact retB K (by simp) X (show cells ≤ 0 by omega) (show slots ≤ 0 by omega) d2_14
    · rw [if_neg hc10]
      refine i_icmpYes (pc' := 15) K X d2_10 (feq hc10).2 (by decide) (by decide) ?_
      refine i_iloadN (pc' := 16) K X d2_15 rfl rfl ?_
      refine i_bipush (pc' := 18) (v := (43 : Int32)) K X d2_16 rfl rfl ?_
      by_cases hc18 : i0 = (43 : Int32)
      · rw [if_pos hc18]
        refine i_icmpNo (pc' := 21) K X d2_18 rfl (teq hc18).2 ?_
        refine i_iconst (pc' := 22) (v := (1 : Int32)) K X d2_21 rfl rfl ?_
        exact retB K (by simp) X (show cells ≤ 0 by omega) (show slots ≤ 0 by omega) d2_22
      · rw [if_neg hc18]
        refine i_icmpYes (pc' := 23) K X d2_18 (feq hc18).2 (by decide) (by decide) ?_
        refine i_iconst (pc' := 24) (v := (0 : Int32)) K X d2_23 rfl rfl ?_
        exact retB K (by simp) X (show cells ≤ 0 by omega) (show slots ≤ 0 by omega) d2_24
theorem pn_2 : plainName "com/example/sealwire/sealwire/radius/RadiusCodeHasComputedRequestAuthenticatorPinLaw" = true := by first | (simp [plainName, overriddenIn]; done) | decide +kernel
theorem rm2 {l : Launch} {Z : State} {a0 : Array Value} {n0 : Nat} (hw : ∀ d ∈ tables_1, d.before a0 Z = true) (A : AH) (i0 : Int32) :
    Met l own_D Z n0 (⟨"com/example/sealwire/sealwire/radius/RadiusCodeHasComputedRequestAuthenticatorPinLaw", "expected", "(I)Z"⟩ : MethodName) method_2_code 1 (some .boolean) own_R2 [(.int i0)] A (some (.int (f2_0 i0))) A :=
  met (W := tables_1) (a0 := a0) (own := "com/example/sealwire/sealwire/radius/RadiusCodeHasComputedRequestAuthenticatorPinLaw") (nm := "expected") (L0 := #[.val (.int i0)]) (plainFor_of_name pn_2) hw rfl rfl (fun m => by first | (simp [entryFrame, mkF, argsToLocals, Value.category]; done) | rfl) (fun p e s m below meth c T K X => w2_0 K X i0 (show 0 + 0 ≤ 0 by decide) (show 0 + 0 ≤ 0 by decide))
def f0_145 (A : AH) (s0 : Int32) : Option (Int32 × AH) :=
  some ((nar .boolean s0), A)
set_option maxRecDepth 65536 in
set_option maxHeartbeats 4000000 in
theorem w0_145 (K : Cx p l e room_1 s m meth c Z a0 tables_1 "com/example/sealwire/sealwire/radius/RadiusCodeHasComputedRequestAuthenticatorPinLaw" "law" code maxLocals ret) (sep : ∀ t, Sep Z (own_D t).2) (X : On p l e room_1 s m args below meth c own_D Z n0 T A cells slots) (i0 : Int32) (i1 : Int32) (o2 : Nat) (i3 : Int32) (i4 : Int32) (i5 : Int32) (s0 : Int32) (hc : cells + 0 ≤ 16) (hs : slots + 0 ≤ 128) {q : Int32 × AH} (hf : f0_145 A s0 = some q) :
    Go p e below (T.setTop (mkF m 145 #[.val (.int i0), .val (.int i1), .val (.ref (n0 + o2)), .val (.int i3), .val (.int i4), .val (.int i5)] [(.int s0)])) (Fini own_D Z n0 s room_1 (some (.int q.1)) q.2) := by
  unfold f0_145 at hf
  cases hf
  exact retB K (by simp) X (show cells ≤ 16 by omega) (show slots ≤ 128 by omega) at_145
def f0_144 (A : AH)  : Option (Int32 × AH) :=
  f0_145 A (0 : Int32)
set_option maxRecDepth 65536 in
set_option maxHeartbeats 4000000 in
theorem w0_144 (K : Cx p l e room_1 s m meth c Z a0 tables_1 "com/example/sealwire/sealwire/radius/RadiusCodeHasComputedRequestAuthenticatorPinLaw" "law" code maxLocals ret) (sep : ∀ t, Sep Z (own_D t).2) (X : On p l e room_1 s m args below meth c own_D Z n0 T A cells slots) (i0 : Int32) (i1 : Int32) (o2 : Nat) (i3 : Int32) (i4 : Int32) (i5 : Int32) (hc : cells + 0 ≤ 16) (hs : slots + 0 ≤ 128) {q : Int32 × AH} (hf : f0_144 A  = some q) :
    Go p e below (T.setTop (mkF m 144 #[.val (.int i0), .val (.int i1), .val (.ref (n0 + o2)), .val (.int i3), .val (.int i4), .val (.int i5)] [])) (Fini own_D Z n0 s room_1 (some (.int q.1)) q.2) := by
  unfold f0_144 at hf
  refine i_iconst (pc' := 145) (v := (0 : Int32)) K X at_144 rfl rfl ?_
  exact w0_145 K sep X i0 i1 o2 i3 i4 i5 (0 : Int32) (show cells + 0 ≤ 16 by omega) (show slots + 0 ≤ 128 by omega) hf
def f0_128 (A : AH) (i4 : Int32) (s0 : Int32) : Option (Int32 × AH) :=
  if i4 = (0 : Int32) then (f0_144 A )
  else (if s0 = (0 : Int32) then (f0_144 A )
  else (f0_145 A (1 : Int32)))
set_option maxRecDepth 65536 in
set_option maxHeartbeats 4000000 in
theorem w0_128 (K : Cx p l e room_1 s m meth c Z a0 tables_1 "com/example/sealwire/sealwire/radius/RadiusCodeHasComputedRequestAuthenticatorPinLaw" "law" code maxLocals ret) (sep : ∀ t, Sep Z (own_D t).2) (X : On p l e room_1 s m args below meth c own_D Z n0 T A cells slots) (i0 : Int32) (i1 : Int32) (o2 : Nat) (i3 : Int32) (i4 : Int32) (s0 : Int32) (hc : cells + 0 ≤ 16) (hs : slots + 0 ≤ 128) {q : Int32 × AH} (hf : f0_128 A i4 s0 = some q) :
    Go p e below (T.setTop (mkF m 128 #[.val (.int i0), .val (.int i1), .val (.ref (n0 + o2)), .val (.int i3), .val (.int i4), .unset] [(.int s0)])) (Fini own_D Z n0 s room_1 (some (.int q.1)) q.2) := by
  unfold f0_128 at hf
  refine i_istore (pc' := 130) (Ls' := #[.val (.int i0), .val (.int i1), .val (.ref (n0 + o2)), .val (.int i3), .val (.int i4), .val (.int s0)]) K X at_128 rfl rfl ?_
  refine i_iload (pc' := 132) K X at_130 rfl rfl ?_
  by_cases hc132 : i4 = (0 : Int32)
  · rw [if_pos hc132] at hf
    refine i_ifYes (pc' := 144) K X at_132 (teq hc132).1 (by decide) (by decide) ?_
    exact w0_144 K sep X i0 i1 o2 i3 i4 s0 (show cells + 0 ≤ 16 by omega) (show slots + 0 ≤ 128 by omega) hf
  · rw [if_neg hc132] at hf
    refine i_ifNo (pc' := 135) K X at_132 rfl (feq hc132).1 ?_
    refine i_iload (pc' := 137) K X at_135 rfl rfl ?_
    by_cases hc137 : s0 = (0 : Int32)
    · rw [if_pos hc137] at hf
      refine i_ifYes (pc' := 144) K X at_137 (teq hc137).1 (by decide) (by decide) ?_
      exact w0_144 K sep X i0 i1 o2 i3 i4 s0 (show cells + 0 ≤ 16 by omega) (show slots + 0 ≤ 128 by omega) hf
    · rw [if_neg hc137] at hf
      refine i_ifNo (pc' := 140) K X at_137 rfl (feq hc137).1 ?_
      refine i_iconst (pc' := 141) (v := (1 : Int32)) K X at_140 rfl rfl ?_
      refine i_goto (pc' := 145) K X at_141 (by decide) (by decide) ?_
      exact w0_145 K sep X i0 i1 o2 i3 i4 s0 (1 : Int32) (show cells + 0 ≤ 16 by omega) (show slots + 0 ≤ 128 by omega) hf
def f0_110 (A : AH) (i3 : Int32) (s0 : Int32) : Option (Int32 × AH) :=
  if (f1_0 i3) = (f2_0 i3) then (f0_128 A s0 (1 : Int32))
  else (f0_128 A s0 (0 : Int32))
set_option maxRecDepth 65536 in
set_option maxHeartbeats 4000000 in
theorem w0_110 (K : Cx p l e room_1 s m meth c Z a0 tables_1 "com/example/sealwire/sealwire/radius/RadiusCodeHasComputedRequestAuthenticatorPinLaw" "law" code maxLocals ret) (sep : ∀ t, Sep Z (own_D t).2) (X : On p l e room_1 s m args below meth c own_D Z n0 T A cells slots) (i0 : Int32) (i1 : Int32) (o2 : Nat) (i3 : Int32) (s0 : Int32) (hc : cells + 0 ≤ 16) (hs : slots + 0 ≤ 128) {q : Int32 × AH} (hf : f0_110 A i3 s0 = some q) :
    Go p e below (T.setTop (mkF m 110 #[.val (.int i0), .val (.int i1), .val (.ref (n0 + o2)), .val (.int i3), .unset, .unset] [(.int s0)])) (Fini own_D Z n0 s room_1 (some (.int q.1)) q.2) := by
  unfold f0_110 at hf
  refine i_istore (pc' := 112) (Ls' := #[.val (.int i0), .val (.int i1), .val (.ref (n0 + o2)), .val (.int i3), .val (.int s0), .unset]) K X at_110 rfl rfl ?_
  refine i_iloadN (pc' := 113) K X at_112 rfl rfl ?_
  refine calls (pc' := 116) (kc := cells) (ks := slots) (S' := [(.int (f1_0 i3))]) (st := []) K X (i1 := 1) rfl (i2 := 2) rfl (i3 := 3) rfl (i4 := 4) rfl (by decide) (rm1 (l := l) (n0 := n0) (K.2.2.2.2.2.2.2.2) A i3) pd_1 rfl at_113 rfl rfl (by decide) (w := 0) (Nat.le_of_eq rfl) (by decide) (show cells + 0 ≤ 16 by omega) (show slots + 0 ≤ 128 by omega) rfl rfl rfl rfl (fun T1 X1 => ?_)
  refine i_iloadN (pc' := 117) K X1 at_116 rfl rfl ?_
  refine calls (pc' := 120) (kc := cells) (ks := slots) (S' := [(.int (f2_0 i3)), (.int (f1_0 i3))]) (st := [(.int (f1_0 i3))]) K X1 (i1 := 5) rfl (i2 := 6) rfl (i3 := 7) rfl (i4 := 8) rfl (by decide) (rm2 (l := l) (n0 := n0) (K.2.2.2.2.2.2.2.2) A i3) pd_2 rfl at_117 rfl rfl (by decide) (w := 1) (Nat.le_of_eq rfl) (by decide) (show cells + 0 ≤ 16 by omega) (show slots + 0 ≤ 128 by omega) rfl rfl rfl rfl (fun T2 X2 => ?_)
  by_cases hc120 : (f1_0 i3) = (f2_0 i3)
  · rw [if_pos hc120] at hf
    refine i_icmpNo (pc' := 123) K X2 at_120 rfl (teq hc120).2 ?_
    refine i_iconst (pc' := 124) (v := (1 : Int32)) K X2 at_123 rfl rfl ?_
    refine i_goto (pc' := 128) K X2 at_124 (by decide) (by decide) ?_
    exact w0_128 K sep X2 i0 i1 o2 i3 s0 (1 : Int32) (show cells + 0 ≤ 16 by omega) (show slots + 0 ≤ 128 by omega) hf
  · rw [if_neg hc120] at hf
    refine i_icmpYes (pc' := 127) K X2 at_120 (feq hc120).2 (by decide) (by decide) ?_
    refine i_iconst (pc' := 128) (v := (0 : Int32)) K X2 at_127 rfl rfl ?_
    exact w0_128 K sep X2 i0 i1 o2 i3 s0 (0 : Int32) (show cells + 0 ≤ 16 by omega) (show slots + 0 ≤ 128 by omega) hf
def f0_84 (A : AH) (i0 : Int32) (i1 : Int32) (s0 : Int32) (r1 : Nat) (r2 : Nat) : Option (Int32 × AH) :=
  (h_aset A 0 r1 s0 (.int i0)).bind fun A1 =>
  (asI (h_aget A1 0 r2 (i1 &&& (15 : Int32)))).bind fun v2 =>
  if (f1_0 i0) = (f2_0 i0) then (f0_110 A1 v2 (1 : Int32))
  else (f0_110 A1 v2 (0 : Int32))
set_option maxRecDepth 65536 in
set_option maxHeartbeats 4000000 in
theorem w0_84 (K : Cx p l e room_1 s m meth c Z a0 tables_1 "com/example/sealwire/sealwire/radius/RadiusCodeHasComputedRequestAuthenticatorPinLaw" "law" code maxLocals ret) (sep : ∀ t, Sep Z (own_D t).2) (X : On p l e room_1 s m args below meth c own_D Z n0 T A cells slots) (i0 : Int32) (i1 : Int32) (s0 : Int32) (r1 : Nat) (r2 : Nat) (hc : cells + 0 ≤ 16) (hs : slots + 0 ≤ 128) {q : Int32 × AH} (hf : f0_84 A i0 i1 s0 r1 r2 = some q) :
    Go p e below (T.setTop (mkF m 84 #[.val (.int i0), .val (.int i1), .unset, .unset, .unset, .unset] [(.int s0), (.ref (n0 + r1)), (.ref (n0 + r2))])) (Fini own_D Z n0 s room_1 (some (.int q.1)) q.2) := by
  unfold f0_84 at hf
  refine i_iloadN (pc' := 85) K X at_84 rfl rfl ?_
  obtain ⟨A1, g1, hf⟩ := bs hf
  refine ast0 (pc' := 86) K X g1 at_85 rfl (fun T1 X1 => ?_)
  refine i_astoreN (pc' := 87) (Ls' := #[.val (.int i0), .val (.int i1), .val (.ref (n0 + r2)), .unset, .unset, .unset]) K X1 at_86 rfl rfl rfl ?_
  refine i_aloadN (pc' := 88) K X1 at_87 rfl rfl rfl ?_
  refine i_iloadN (pc' := 89) K X1 at_88 rfl rfl ?_
  refine i_bipush (pc' := 91) (v := (15 : Int32)) K X1 at_89 rfl rfl ?_
  refine i_iand (pc' := 92) K X1 at_91 rfl ?_
  obtain ⟨v2, g2, hf⟩ := bs hf
  refine ld0 (pc' := 93) K X1 g2 at_92 rfl ?_
  refine i_istoreN (pc' := 94) (Ls' := #[.val (.int i0), .val (.int i1), .val (.ref (n0 + r2)), .val (.int v2), .unset, .unset]) K X1 at_93 rfl rfl ?_
  refine i_iloadN (pc' := 95) K X1 at_94 rfl rfl ?_
  refine calls (pc' := 98) (kc := cells) (ks := slots) (S' := [(.int (f1_0 i0))]) (st := []) K X1 (i1 := 1) rfl (i2 := 2) rfl (i3 := 3) rfl (i4 := 4) rfl (by decide) (rm1 (l := l) (n0 := n0) (K.2.2.2.2.2.2.2.2) A1 i0) pd_1 rfl at_95 rfl rfl (by decide) (w := 0) (Nat.le_of_eq rfl) (by decide) (show cells + 0 ≤ 16 by omega) (show slots + 0 ≤ 128 by omega) rfl rfl rfl rfl (fun T3 X3 => ?_)
  refine i_iloadN (pc' := 99) K X3 at_98 rfl rfl ?_
  refine calls (pc' := 102) (kc := cells) (ks := slots) (S' := [(.int (f2_0 i0)), (.int (f1_0 i0))]) (st := [(.int (f1_0 i0))]) K X3 (i1 := 5) rfl (i2 := 6) rfl (i3 := 7) rfl (i4 := 8) rfl (by decide) (rm2 (l := l) (n0 := n0) (K.2.2.2.2.2.2.2.2) A1 i0) pd_2 rfl at_99 rfl rfl (by decide) (w := 1) (Nat.le_of_eq rfl) (by decide) (show cells + 0 ≤ 16 by omega) (show slots + 0 ≤ 128 by omega) rfl rfl rfl rfl (fun T4 X4 => ?_)
  by_cases hc102 : (f1_0 i0) = (f2_0 i0)
  · rw [if_pos hc102] at hf
    refine i_icmpNo (pc' := 105) K X4 at_102 rfl (teq hc102).2 ?_
    refine i_iconst (pc' := 106) (v := (1 : Int32)) K X4 at_105 rfl rfl ?_
    refine i_goto (pc' := 110) K X4 at_106 (by decide) (by decide) ?_
    exact w0_110 K sep X4 i0 i1 r2 v2 (1 : Int32) (show cells + 0 ≤ 16 by omega) (show slots + 0 ≤ 128 by omega) hf
  · rw [if_neg hc102] at hf
    refine i_icmpYes (pc' := 109) K X4 at_102 (feq hc102).2 (by decide) (by decide) ?_
    refine i_iconst (pc' := 110) (v := (0 : Int32)) K X4 at_109 rfl rfl ?_
    exact w0_110 K sep X4 i0 i1 r2 v2 (0 : Int32) (show cells + 0 ≤ 16 by omega) (show slots + 0 ≤ 128 by omega) hf
def f0_62 (A : AH) (i0 : Int32) (i1 : Int32) (s0 : Int32) (r1 : Nat) (r2 : Nat) : Option (Int32 × AH) :=
  (h_aset A 0 r1 s0 (.int (42 : Int32))).bind fun A1 =>
  (h_aset A1 0 r2 (12 : Int32) (.int (44 : Int32))).bind fun A2 =>
  (h_aset A2 0 r2 (13 : Int32) (.int (3 : Int32))).bind fun A3 =>
  (h_aset A3 0 r2 (14 : Int32) (.int (0 : Int32))).bind fun A4 =>
  f0_84 A4 i0 i1 (15 : Int32) r2 r2
set_option maxRecDepth 65536 in
set_option maxHeartbeats 4000000 in
theorem w0_62 (K : Cx p l e room_1 s m meth c Z a0 tables_1 "com/example/sealwire/sealwire/radius/RadiusCodeHasComputedRequestAuthenticatorPinLaw" "law" code maxLocals ret) (sep : ∀ t, Sep Z (own_D t).2) (X : On p l e room_1 s m args below meth c own_D Z n0 T A cells slots) (i0 : Int32) (i1 : Int32) (s0 : Int32) (r1 : Nat) (r2 : Nat) (hc : cells + 0 ≤ 16) (hs : slots + 0 ≤ 128) {q : Int32 × AH} (hf : f0_62 A i0 i1 s0 r1 r2 = some q) :
    Go p e below (T.setTop (mkF m 62 #[.val (.int i0), .val (.int i1), .unset, .unset, .unset, .unset] [(.int s0), (.ref (n0 + r1)), (.ref (n0 + r2))])) (Fini own_D Z n0 s room_1 (some (.int q.1)) q.2) := by
  unfold f0_62 at hf
  refine i_bipush (pc' := 64) (v := (42 : Int32)) K X at_62 rfl rfl ?_
  obtain ⟨A1, g1, hf⟩ := bs hf
  refine ast0 (pc' := 65) K X g1 at_64 rfl (fun T1 X1 => ?_)
  refine i_dup (pc' := 66) K X1 at_65 rfl rfl ?_
  refine i_bipush (pc' := 68) (v := (12 : Int32)) K X1 at_66 rfl rfl ?_
  refine i_bipush (pc' := 70) (v := (44 : Int32)) K X1 at_68 rfl rfl ?_
  obtain ⟨A2, g2, hf⟩ := bs hf
  refine ast0 (pc' := 71) K X1 g2 at_70 rfl (fun T2 X2 => ?_)
  refine i_dup (pc' := 72) K X2 at_71 rfl rfl ?_
  refine i_bipush (pc' := 74) (v := (13 : Int32)) K X2 at_72 rfl rfl ?_
  refine i_iconst (pc' := 75) (v := (3 : Int32)) K X2 at_74 rfl rfl ?_
  obtain ⟨A3, g3, hf⟩ := bs hf
  refine ast0 (pc' := 76) K X2 g3 at_75 rfl (fun T3 X3 => ?_)
  refine i_dup (pc' := 77) K X3 at_76 rfl rfl ?_
  refine i_bipush (pc' := 79) (v := (14 : Int32)) K X3 at_77 rfl rfl ?_
  refine i_iconst (pc' := 80) (v := (0 : Int32)) K X3 at_79 rfl rfl ?_
  obtain ⟨A4, g4, hf⟩ := bs hf
  refine ast0 (pc' := 81) K X3 g4 at_80 rfl (fun T4 X4 => ?_)
  refine i_dup (pc' := 82) K X4 at_81 rfl rfl ?_
  refine i_bipush (pc' := 84) (v := (15 : Int32)) K X4 at_82 rfl rfl ?_
  exact w0_84 K sep X4 i0 i1 (15 : Int32) r2 r2 (show cells + 0 ≤ 16 by omega) (show slots + 0 ≤ 128 by omega) hf
def f0_38 (A : AH) (i0 : Int32) (i1 : Int32) (s0 : Int32) (r1 : Nat) (r2 : Nat) : Option (Int32 × AH) :=
  (h_aset A 0 r1 s0 (.int (40 : Int32))).bind fun A1 =>
  (h_aset A1 0 r2 (8 : Int32) (.int (43 : Int32))).bind fun A2 =>
  (h_aset A2 0 r2 (9 : Int32) (.int (39 : Int32))).bind fun A3 =>
  (h_aset A3 0 r2 (10 : Int32) (.int (41 : Int32))).bind fun A4 =>
  f0_62 A4 i0 i1 (11 : Int32) r2 r2
set_option maxRecDepth 65536 in
set_option maxHeartbeats 4000000 in
theorem w0_38 (K : Cx p l e room_1 s m meth c Z a0 tables_1 "com/example/sealwire/sealwire/radius/RadiusCodeHasComputedRequestAuthenticatorPinLaw" "law" code maxLocals ret) (sep : ∀ t, Sep Z (own_D t).2) (X : On p l e room_1 s m args below meth c own_D Z n0 T A cells slots) (i0 : Int32) (i1 : Int32) (s0 : Int32) (r1 : Nat) (r2 : Nat) (hc : cells + 0 ≤ 16) (hs : slots + 0 ≤ 128) {q : Int32 × AH} (hf : f0_38 A i0 i1 s0 r1 r2 = some q) :
    Go p e below (T.setTop (mkF m 38 #[.val (.int i0), .val (.int i1), .unset, .unset, .unset, .unset] [(.int s0), (.ref (n0 + r1)), (.ref (n0 + r2))])) (Fini own_D Z n0 s room_1 (some (.int q.1)) q.2) := by
  unfold f0_38 at hf
  refine i_bipush (pc' := 40) (v := (40 : Int32)) K X at_38 rfl rfl ?_
  obtain ⟨A1, g1, hf⟩ := bs hf
  refine ast0 (pc' := 41) K X g1 at_40 rfl (fun T1 X1 => ?_)
  refine i_dup (pc' := 42) K X1 at_41 rfl rfl ?_
  refine i_bipush (pc' := 44) (v := (8 : Int32)) K X1 at_42 rfl rfl ?_
  refine i_bipush (pc' := 46) (v := (43 : Int32)) K X1 at_44 rfl rfl ?_
  obtain ⟨A2, g2, hf⟩ := bs hf
  refine ast0 (pc' := 47) K X1 g2 at_46 rfl (fun T2 X2 => ?_)
  refine i_dup (pc' := 48) K X2 at_47 rfl rfl ?_
  refine i_bipush (pc' := 50) (v := (9 : Int32)) K X2 at_48 rfl rfl ?_
  refine i_bipush (pc' := 52) (v := (39 : Int32)) K X2 at_50 rfl rfl ?_
  obtain ⟨A3, g3, hf⟩ := bs hf
  refine ast0 (pc' := 53) K X2 g3 at_52 rfl (fun T3 X3 => ?_)
  refine i_dup (pc' := 54) K X3 at_53 rfl rfl ?_
  refine i_bipush (pc' := 56) (v := (10 : Int32)) K X3 at_54 rfl rfl ?_
  refine i_bipush (pc' := 58) (v := (41 : Int32)) K X3 at_56 rfl rfl ?_
  obtain ⟨A4, g4, hf⟩ := bs hf
  refine ast0 (pc' := 59) K X3 g4 at_58 rfl (fun T4 X4 => ?_)
  refine i_dup (pc' := 60) K X4 at_59 rfl rfl ?_
  refine i_bipush (pc' := 62) (v := (11 : Int32)) K X4 at_60 rfl rfl ?_
  exact w0_62 K sep X4 i0 i1 (11 : Int32) r2 r2 (show cells + 0 ≤ 16 by omega) (show slots + 0 ≤ 128 by omega) hf
def f0_18 (A : AH) (i0 : Int32) (i1 : Int32) (s0 : Int32) (r1 : Nat) (r2 : Nat) : Option (Int32 × AH) :=
  (h_aset A 0 r1 s0 (.int (4 : Int32))).bind fun A1 =>
  (h_aset A1 0 r2 (4 : Int32) (.int (5 : Int32))).bind fun A2 =>
  (h_aset A2 0 r2 (5 : Int32) (.int (11 : Int32))).bind fun A3 =>
  (h_aset A3 0 r2 (6 : Int32) (.int (12 : Int32))).bind fun A4 =>
  f0_38 A4 i0 i1 (7 : Int32) r2 r2
set_option maxRecDepth 65536 in
set_option maxHeartbeats 4000000 in
theorem w0_18 (K : Cx p l e room_1 s m meth c Z a0 tables_1 "com/example/sealwire/sealwire/radius/RadiusCodeHasComputedRequestAuthenticatorPinLaw" "law" code maxLocals ret) (sep : ∀ t, Sep Z (own_D t).2) (X : On p l e room_1 s m args below meth c own_D Z n0 T A cells slots) (i0 : Int32) (i1 : Int32) (s0 : Int32) (r1 : Nat) (r2 : Nat) (hc : cells + 0 ≤ 16) (hs : slots + 0 ≤ 128) {q : Int32 × AH} (hf : f0_18 A i0 i1 s0 r1 r2 = some q) :
    Go p e below (T.setTop (mkF m 18 #[.val (.int i0), .val (.int i1), .unset, .unset, .unset, .unset] [(.int s0), (.ref (n0 + r1)), (.ref (n0 + r2))])) (Fini own_D Z n0 s room_1 (some (.int q.1)) q.2) := by
  unfold f0_18 at hf
  refine i_iconst (pc' := 19) (v := (4 : Int32)) K X at_18 rfl rfl ?_
  obtain ⟨A1, g1, hf⟩ := bs hf
  refine ast0 (pc' := 20) K X g1 at_19 rfl (fun T1 X1 => ?_)
  refine i_dup (pc' := 21) K X1 at_20 rfl rfl ?_
  refine i_iconst (pc' := 22) (v := (4 : Int32)) K X1 at_21 rfl rfl ?_
  refine i_iconst (pc' := 23) (v := (5 : Int32)) K X1 at_22 rfl rfl ?_
  obtain ⟨A2, g2, hf⟩ := bs hf
  refine ast0 (pc' := 24) K X1 g2 at_23 rfl (fun T2 X2 => ?_)
  refine i_dup (pc' := 25) K X2 at_24 rfl rfl ?_
  refine i_iconst (pc' := 26) (v := (5 : Int32)) K X2 at_25 rfl rfl ?_
  refine i_bipush (pc' := 28) (v := (11 : Int32)) K X2 at_26 rfl rfl ?_
  obtain ⟨A3, g3, hf⟩ := bs hf
  refine ast0 (pc' := 29) K X2 g3 at_28 rfl (fun T3 X3 => ?_)
  refine i_dup (pc' := 30) K X3 at_29 rfl rfl ?_
  refine i_bipush (pc' := 32) (v := (6 : Int32)) K X3 at_30 rfl rfl ?_
  refine i_bipush (pc' := 34) (v := (12 : Int32)) K X3 at_32 rfl rfl ?_
  obtain ⟨A4, g4, hf⟩ := bs hf
  refine ast0 (pc' := 35) K X3 g4 at_34 rfl (fun T4 X4 => ?_)
  refine i_dup (pc' := 36) K X4 at_35 rfl rfl ?_
  refine i_bipush (pc' := 38) (v := (7 : Int32)) K X4 at_36 rfl rfl ?_
  exact w0_38 K sep X4 i0 i1 (7 : Int32) r2 r2 (show cells + 0 ≤ 16 by omega) (show slots + 0 ≤ 128 by omega) hf
def f0_0 (A : AH) (i0 : Int32) (i1 : Int32) : Option (Int32 × AH) :=
  (h_anew A 0 16 (16 : Int32) (.int 0)).bind fun q1 =>
  (h_aset q1.2 0 q1.1 (0 : Int32) (.int (1 : Int32))).bind fun A2 =>
  (h_aset A2 0 q1.1 (1 : Int32) (.int (2 : Int32))).bind fun A3 =>
  (h_aset A3 0 q1.1 (2 : Int32) (.int (3 : Int32))).bind fun A4 =>
  f0_18 A4 i0 i1 (3 : Int32) q1.1 q1.1
set_option maxRecDepth 65536 in
set_option maxHeartbeats 4000000 in
theorem w0_0 (K : Cx p l e room_1 s m meth c Z a0 tables_1 "com/example/sealwire/sealwire/radius/RadiusCodeHasComputedRequestAuthenticatorPinLaw" "law" code maxLocals ret) (sep : ∀ t, Sep Z (own_D t).2) (X : On p l e room_1 s m args below meth c own_D Z n0 T A cells slots) (i0 : Int32) (i1 : Int32) (hc : cells + 1 ≤ 16) (hs : slots + 16 ≤ 128) {q : Int32 × AH} (hf : f0_0 A i0 i1 = some q) :
    Go p e below (T.setTop (mkF m 0 #[.val (.int i0), .val (.int i1), .unset, .unset, .unset, .unset] [])) (Fini own_D Z n0 s room_1 (some (.int q.1)) q.2) := by
  unfold f0_0 at hf
  refine i_bipush (pc' := 2) (v := (16 : Int32)) K X at_0 rfl rfl ?_
  obtain ⟨q1, g1, hf⟩ := bs hf
  refine newa (pc' := 4) K X (i1 := 0) (at' := .int) rfl at_2 (t := 0) (cap := 16) (by decide) (show cells + 1 ≤ 16 by omega) (show slots + 16 ≤ 128 by omega) (by decide) rfl rfl g1 rfl (fun T1 X1 => ?_)
  refine i_dup (pc' := 5) K X1 at_4 rfl rfl ?_
  refine i_iconst (pc' := 6) (v := (0 : Int32)) K X1 at_5 rfl rfl ?_
  refine i_iconst (pc' := 7) (v := (1 : Int32)) K X1 at_6 rfl rfl ?_
  obtain ⟨A2, g2, hf⟩ := bs hf
  refine ast0 (pc' := 8) K X1 g2 at_7 rfl (fun T2 X2 => ?_)
  refine i_dup (pc' := 9) K X2 at_8 rfl rfl ?_
  refine i_iconst (pc' := 10) (v := (1 : Int32)) K X2 at_9 rfl rfl ?_
  refine i_iconst (pc' := 11) (v := (2 : Int32)) K X2 at_10 rfl rfl ?_
  obtain ⟨A3, g3, hf⟩ := bs hf
  refine ast0 (pc' := 12) K X2 g3 at_11 rfl (fun T3 X3 => ?_)
  refine i_dup (pc' := 13) K X3 at_12 rfl rfl ?_
  refine i_iconst (pc' := 14) (v := (2 : Int32)) K X3 at_13 rfl rfl ?_
  refine i_iconst (pc' := 15) (v := (3 : Int32)) K X3 at_14 rfl rfl ?_
  obtain ⟨A4, g4, hf⟩ := bs hf
  refine ast0 (pc' := 16) K X3 g4 at_15 rfl (fun T4 X4 => ?_)
  refine i_dup (pc' := 17) K X4 at_16 rfl rfl ?_
  refine i_iconst (pc' := 18) (v := (3 : Int32)) K X4 at_17 rfl rfl ?_
  exact w0_18 K sep X4 i0 i1 (3 : Int32) q1.1 q1.1 (show cells + 1 + 0 ≤ 16 by omega) (show slots + 16 + 0 ≤ 128 by omega) hf
theorem pn_0 : plainName "com/example/sealwire/sealwire/radius/RadiusCodeHasComputedRequestAuthenticatorPinLaw" = true := by first | (simp [plainName, overriddenIn]; done) | decide +kernel
theorem rm0 {l : Launch} {Z : State} {a0 : Array Value} {n0 : Nat} (hw : ∀ d ∈ tables_1, d.before a0 Z = true) (A : AH) (i0 : Int32) (i1 : Int32) {q : Int32 × AH} (hf : f0_0 A i0 i1 = some q) :
    Met l own_D Z n0 x code maxLocals ret room_1 [(.int i0), (.int i1)] A (some (.int q.1)) q.2 :=
  met (W := tables_1) (a0 := a0) (own := "com/example/sealwire/sealwire/radius/RadiusCodeHasComputedRequestAuthenticatorPinLaw") (nm := "law") (L0 := #[.val (.int i0), .val (.int i1), .unset, .unset, .unset, .unset]) (plainFor_of_name pn_0) hw rfl rfl (fun m => by first | (simp [entryFrame, mkF, argsToLocals, Value.category, maxLocals]; done) | rfl) (fun p e s m below meth c T K X => w0_0 K (own_sep hw) X i0 i1 (show 0 + 1 ≤ 16 by decide) (show 0 + 16 ≤ 128 by decide) hf)
end OwnWalk
/-! the plain law -/
theorem own_same (c : Int32) : f1_0 c = f2_0 c := by
  unfold f1_0 f2_0 f1_17 f1_22
  repeat' split
  all_goals rfl
theorem own_low {P : Int32 → Prop} (h : ∀ k : Fin 16, P (Int32.ofInt k.val)) (x : Int32) : P (x &&& 15) := by
  have e := c_mask x 15 4 (by decide) (by decide)
  have := h ⟨(x &&& 15).toInt.toNat, by simp only [show ((2 ^ 4 : Nat) : Int) = 16 from rfl] at e; omega⟩
  have q : Int32.ofInt ((x &&& 15).toInt.toNat : Int) = x &&& 15 := by
    rw [Int.toNat_of_nonneg (by simp only [show ((2 ^ 4 : Nat) : Int) = 16 from rfl] at e; omega)]; exact Int32.ofInt_toInt _
  rw [q] at this; exact this
theorem own_at (A : AH) (c : Int32) : f0_110 A c 1 = some (1, A) := by
  unfold f0_110 f0_128 f0_144 f0_145
  rw [if_pos (own_same c)]; rfl
set_option maxRecDepth 65536 in
set_option maxHeartbeats 4000000 in
theorem own_plain (i0 i1 : Int32) : ∃ A, f0_0 [] i0 i1 = some (1, A) := by
  have h : f0_0 [] i0 i1 = f0_84 [(0, [.int 1, .int 2, .int 3, .int 4, .int 5, .int 11, .int 12, .int 40, .int 43, .int 39, .int 41, .int 42, .int 44, .int 3, .int 0, .int 0])] i0 i1 15 0 0 := rfl
  rw [h]
  unfold f0_84
  have h2 : h_aset [(0, [.int 1, .int 2, .int 3, .int 4, .int 5, .int 11, .int 12, .int 40, .int 43, .int 39, .int 41, .int 42, .int 44, .int 3, .int 0, .int 0])] 0 0 15 (.int i0) = some [(0, [.int 1, .int 2, .int 3, .int 4, .int 5, .int 11, .int 12, .int 40, .int 43, .int 39, .int 41, .int 42, .int 44, .int 3, .int 0, .int i0])] := rfl
  rw [h2]
  have h3 : ∀ x : Int32, ∃ v, asI (h_aget [(0, [.int 1, .int 2, .int 3, .int 4, .int 5, .int 11, .int 12, .int 40, .int 43, .int 39, .int 41, .int 42, .int 44, .int 3, .int 0, .int i0])] 0 0 (x &&& 15)) = some v := by
    intro x
    refine own_low (P := fun z => ∃ v, asI (h_aget [(0, [.int 1, .int 2, .int 3, .int 4, .int 5, .int 11, .int 12, .int 40, .int 43, .int 39, .int 41, .int 42, .int 44, .int 3, .int 0, .int i0])] 0 0 z) = some v) ?_ x
    intro k
    match k with
    | ⟨0, _⟩ => exact ⟨_, rfl⟩
    | ⟨1, _⟩ => exact ⟨_, rfl⟩
    | ⟨2, _⟩ => exact ⟨_, rfl⟩
    | ⟨3, _⟩ => exact ⟨_, rfl⟩
    | ⟨4, _⟩ => exact ⟨_, rfl⟩
    | ⟨5, _⟩ => exact ⟨_, rfl⟩
    | ⟨6, _⟩ => exact ⟨_, rfl⟩
    | ⟨7, _⟩ => exact ⟨_, rfl⟩
    | ⟨8, _⟩ => exact ⟨_, rfl⟩
    | ⟨9, _⟩ => exact ⟨_, rfl⟩
    | ⟨10, _⟩ => exact ⟨_, rfl⟩
    | ⟨11, _⟩ => exact ⟨_, rfl⟩
    | ⟨12, _⟩ => exact ⟨_, rfl⟩
    | ⟨13, _⟩ => exact ⟨_, rfl⟩
    | ⟨14, _⟩ => exact ⟨_, rfl⟩
    | ⟨15, _⟩ => exact ⟨_, rfl⟩
    | ⟨n + 16, h⟩ => exact absurd h (by omega)
  obtain ⟨v, hv⟩ := h3 i1
  simp only [Option.bind_some, hv]
  rw [if_pos (own_same i0)]
  exact ⟨_, own_at _ v⟩
set_option maxRecDepth 65536 in
set_option maxHeartbeats 4000000 in
theorem comes_1 {Post : Tables → Env → Array Value → State → Outcome → State → Prop} (hpost : ∀ tb e args s v u, (limb_1_1.after args s (.returned v) u = true ∧ limb_1_2.after args s (.returned v) u = true) → FrameEnd s (.returned v) u (Jvm.fieldLocs frame_1_writes args s ++ Jvm.arrayLocs frame_1_arrays args s ++ Jvm.staticLocs frame_1_statics s) 16 128 → Post tb e args s (.returned v) u) :
    ArmFor flags0 classFile x code maxLocals ret World_1 tables_1 room_1 Calls_1 rest_1 Pre_1 Post := by
  intro l hfl _ _ p e ha hc hk s m args below hf hA hF happ hP
  obtain ⟨hcalls, hrest, hpre⟩ := hP
  obtain ⟨-, -, -, hnamed, -, -, -, hat⟩ := (Spec.applies_iff hf).mp happ
  obtain ⟨hg, hn⟩ := and_e (Cond.before_iff.mp (show (Jvm.Cond.and given_1 narrow_1).before args s = true from hpre))
  obtain ⟨b0, hg⟩ := and_e hg
  obtain ⟨b1, hg⟩ := and_e hg
  have b2 := hg
  obtain ⟨w0, w1, rfl⟩ : ∃ w0 w1 : Value, args = #[w0, w1] := by
    have hs : args.size = 2 := by simpa [Cond.value, given_1] using b0
    obtain ⟨L⟩ := args
    match L, hs with
    | [w0, w1], _ => exact ⟨w0, w1, rfl⟩
  have hw := fun d (hd : d ∈ tables_1) => atoms_spec (ws := Jvm.Cond.code x code maxLocals ret :: tables_1) hat d (List.mem_cons_of_mem _ hd)
  obtain ⟨i0, ei0⟩ := is_v b1
  obtain rfl : w0 = (.int i0) := Option.some.inj ei0
  obtain ⟨i1, ei1⟩ := is_v b2
  obtain rfl : w1 = (.int i1) := Option.some.inj ei1
  have RA : Rep own_D s s.heap.size s.heap [] := ⟨rfl, fun i t vs e => by simp at e⟩
  obtain ⟨AE, hv⟩ := own_plain i0 i1
  obtain ⟨n, o, h1, h2, h3, v, L, rfl, ⟨rfl, N, -⟩, hq⟩ := rm0 (l := l) (n0 := s.heap.size) hw [] i0 i1 hv tables_1 s.heap RA p e ha hc hk s m _ below hf ((Spec.applies_iff_loose hf).mp happ).1 ⟨rfl, State.Warmed39.refl s, rfl⟩ trivial
  refine ⟨n, _, h1, h2, h3, hpost _ _ _ _ _ _ ⟨Cond.after_iff.mpr rfl, Cond.after_iff.mpr (eq_i res_at (Term.int_eval (1)) rfl)⟩ ⟨hq.1, hq.2.1, (hq.2.2.sift fun y hy => Or.inr (N y hy)).mono (by decide) (by decide)⟩⟩
theorem main_1_1 : Claimed_1_1 := comes_1 fun _ _ _ _ _ _ h hF => ⟨h.1, hF⟩
theorem main_1_2 : Claimed_1_2 := comes_1 fun _ _ _ _ _ _ h hF => ⟨h.2, hF⟩
end Jvm.Pilot.@@N@@
namespace Jvm.Pilot.@@N@@
open Jvm Jvm.ClassFile Sem Op Lib Jvm.Free Jvm.Stand Jvm.Pilot.@@N@@.Jvm.D
/-! MADE BY PROGRAM (witnessworld.py) out of the Statement's table words and the real class files: 9 classes; the members and pool entries that the words name. The judged class is class 1, her method 2. -/
namespace start1
open Jvm.ClassFile
def u (s : String) : CpInfo := .utf8 (stringToUtf16 s)
/-- a pool by its gaps: so many unusable entries, then the entry; so many at the end -/
def gap : Nat → List CpInfo → List CpInfo
  | 0, r => r
  | n + 1, r => .unusable :: gap n r
def poolList (es : List (Nat × CpInfo)) (last : Nat) : List CpInfo := es.foldr (fun e r => gap e.1 (e.2 :: r)) (gap last [])
def pool (es : List (Nat × CpInfo)) (last : Nat) : Array CpInfo := ⟨poolList es last⟩
def fileOf (pool : Array CpInfo) (this : Nat) (attrs : Array Attribute := #[]) (ms : Array MethodInfo := #[]) (fl : Nat := 33) (sup : Nat := 0) (ifs : Array Nat := #[]) (fds : Array FieldInfo := #[]) : ClassFile where
  minorVersion := 0
  majorVersion := 65
  constantPool := pool
  accessFlags := fl
  thisClass := this
  superClass := sup
  interfaces := ifs
  fields := fds
  methods := ms
  attributes := attrs
def plain (name : String) (sup : Option ClassId) : Class where
  name := name
  kind := .ordinary
  loader := none
  accessFlags := 33
  super := sup
  interfaces := #[]
  cf := none
  fields := #[]
  methods := #[]
  instanceTypes := #[]
  staticTypes := #[]
  resolved := #[]
  callSites := []
  init := .initialized
  statics := none
  mirror := none

def pool0 : Array CpInfo := pool [(5, u "<init>"), (0, u "()V"), (1, .class_ 10), (1, u "java/lang/Object")] 113

def k0m0 : Method := { name := "<init>", desc := "()V", sig := { parameters := [], returnType := none }, accessFlags := 1, code := none }
/-- java/lang/Object -/
def k0 : Class := { plain "java/lang/Object" none with
  accessFlags := 33
  interfaces := #[]
  cf := some (fileOf pool0 8 #[] #[{ accessFlags := 1, nameIndex := 5, descriptorIndex := 6, attributes := #[] }] 33 0 #[] #[])
  fields := #[]
  methods := #[k0m0]
  instanceTypes := #[]
  staticTypes := #[]
  resolved := Array.replicate 124 none
  statics := none }

def pool1 : Array CpInfo := pool [(2, .class_ 4), (1, u "java/lang/Object"), (0, u "<init>"), (0, u "()V"), (0, .methodref 8 9), (0, .class_ 10), (0, .nameAndType 11 12), (0, u "com/example/sealwire/sealwire/radius/RadiusCode"), (0, u "hasComputedRequestAuthenticator"), (0, u "(I)Z"), (0, .methodref 14 15), (0, .class_ 16), (0, .nameAndType 17 12), (0, u "com/example/sealwire/sealwire/radius/RadiusCodeHasComputedRequestAuthenticatorPinLaw"), (0, u "expected"), (3, u "law"), (0, u "(II)Z")] 4

def k1m0 : Method := { name := "<init>", desc := "()V", sig := { parameters := [], returnType := none }, accessFlags := 2, code := none }
def k1c1 : Code := { maxStack := 2, maxLocals := 1, code := method_2_code, exceptionTable := #[], attributes := #[] }
def k1m1 : Method := { name := "expected", desc := "(I)Z", sig := { parameters := [.int], returnType := some .boolean }, accessFlags := 10, code := some k1c1 }
def k1c2 : Code := { maxStack := 4, maxLocals := 6, code := code, exceptionTable := #[], attributes := #[] }
def k1m2 : Method := { name := "law", desc := "(II)Z", sig := { parameters := [.int, .int], returnType := some .boolean }, accessFlags := 9, code := some k1c2 }
/-- com/example/sealwire/sealwire/radius/RadiusCodeHasComputedRequestAuthenticatorPinLaw -/
def k1 : Class := { plain "com/example/sealwire/sealwire/radius/RadiusCodeHasComputedRequestAuthenticatorPinLaw" (some 0) with
  accessFlags := 49
  interfaces := #[]
  cf := some (fileOf pool1 14 #[] #[{ accessFlags := 2, nameIndex := 5, descriptorIndex := 6, attributes := #[] }, { accessFlags := 10, nameIndex := 17, descriptorIndex := 12, attributes := #[] }, { accessFlags := 9, nameIndex := 21, descriptorIndex := 22, attributes := #[] }] 49 2 #[] #[])
  fields := #[]
  methods := #[k1m0, k1m1, k1m2]
  instanceTypes := #[]
  staticTypes := #[]
  resolved := Array.replicate 27 none
  statics := none }

def pool2 : Array CpInfo := pool [(2, .class_ 4), (1, u "java/lang/Object"), (0, u "<init>"), (0, u "()V"), (0, .class_ 8), (0, u "com/example/sealwire/sealwire/radius/RadiusCode"), (0, u "ACCESS_REQUEST"), (0, u "I"), (2, u "ACCESS_ACCEPT"), (1, u "ACCESS_REJECT"), (1, u "ACCOUNTING_REQUEST"), (1, u "ACCOUNTING_RESPONSE"), (1, u "ACCESS_CHALLENGE"), (1, u "STATUS_SERVER"), (1, u "DISCONNECT_REQUEST"), (1, u "COA_REQUEST"), (3, u "hasComputedRequestAuthenticator"), (0, u "(I)Z")] 5

def k2m0 : Method := { name := "<init>", desc := "()V", sig := { parameters := [], returnType := none }, accessFlags := 2, code := none }
def k2c1 : Code := { maxStack := 2, maxLocals := 1, code := prog_36_method_2_code, exceptionTable := #[], attributes := #[] }
def k2m1 : Method := { name := "hasComputedRequestAuthenticator", desc := "(I)Z", sig := { parameters := [.int], returnType := some .boolean }, accessFlags := 9, code := some k2c1 }
/-- com/example/sealwire/sealwire/radius/RadiusCode -/
def k2 : Class := { plain "com/example/sealwire/sealwire/radius/RadiusCode" (some 0) with
  accessFlags := 49
  interfaces := #[]
  cf := some (fileOf pool2 7 #[] #[{ accessFlags := 2, nameIndex := 5, descriptorIndex := 6, attributes := #[] }, { accessFlags := 9, nameIndex := 31, descriptorIndex := 32, attributes := #[] }] 49 2 #[] #[{ accessFlags := 25, nameIndex := 9, descriptorIndex := 10, attributes := #[] }, { accessFlags := 25, nameIndex := 13, descriptorIndex := 10, attributes := #[] }, { accessFlags := 25, nameIndex := 15, descriptorIndex := 10, attributes := #[] }, { accessFlags := 25, nameIndex := 17, descriptorIndex := 10, attributes := #[] }, { accessFlags := 25, nameIndex := 19, descriptorIndex := 10, attributes := #[] }, { accessFlags := 25, nameIndex := 21, descriptorIndex := 10, attributes := #[] }, { accessFlags := 25, nameIndex := 23, descriptorIndex := 10, attributes := #[] }, { accessFlags := 25, nameIndex := 25, descriptorIndex := 10, attributes := #[] }, { accessFlags := 25, nameIndex := 27, descriptorIndex := 10, attributes := #[] }])
  fields := #[{ name := "ACCESS_REQUEST", type := .int, accessFlags := 25, slot := 0, constantValue := 0 }, { name := "ACCESS_ACCEPT", type := .int, accessFlags := 25, slot := 1, constantValue := 0 }, { name := "ACCESS_REJECT", type := .int, accessFlags := 25, slot := 2, constantValue := 0 }, { name := "ACCOUNTING_REQUEST", type := .int, accessFlags := 25, slot := 3, constantValue := 0 }, { name := "ACCOUNTING_RESPONSE", type := .int, accessFlags := 25, slot := 4, constantValue := 0 }, { name := "ACCESS_CHALLENGE", type := .int, accessFlags := 25, slot := 5, constantValue := 0 }, { name := "STATUS_SERVER", type := .int, accessFlags := 25, slot := 6, constantValue := 0 }, { name := "DISCONNECT_REQUEST", type := .int, accessFlags := 25, slot := 7, constantValue := 0 }, { name := "COA_REQUEST", type := .int, accessFlags := 25, slot := 8, constantValue := 0 }]
  methods := #[k2m0, k2m1]
  instanceTypes := #[]
  staticTypes := #[.int, .int, .int, .int, .int, .int, .int, .int, .int]
  resolved := Array.replicate 38 none
  statics := none }

def pool3 : Array CpInfo := pool [(1, u "java/lang/Cloneable"), (0, .class_ 1), (0, u "java/lang/Object"), (0, .class_ 3)] 3

/-- java/lang/Cloneable -/
def k3 : Class := { plain "java/lang/Cloneable" (some 0) with
  accessFlags := 1537
  interfaces := #[]
  cf := some (fileOf pool3 2 #[] #[] 1537 4 #[] #[])
  fields := #[]
  methods := #[]
  instanceTypes := #[]
  staticTypes := #[]
  resolved := Array.replicate 8 none
  statics := none }

def pool4 : Array CpInfo := pool [(1, u "java/io/Serializable"), (0, .class_ 1), (0, u "java/lang/Object"), (0, .class_ 3)] 3

/-- java/io/Serializable -/
def k4 : Class := { plain "java/io/Serializable" (some 0) with
  accessFlags := 1537
  interfaces := #[]
  cf := some (fileOf pool4 2 #[] #[] 1537 4 #[] #[])
  fields := #[]
  methods := #[]
  instanceTypes := #[]
  staticTypes := #[]
  resolved := Array.replicate 8 none
  statics := none }

/-- the primitive byte -/
def k5 : Class := { plain "byte" none with kind := .primitive 'B', accessFlags := 0x411 }
/-- [B -/
def k6 : Class := { plain "[B" (some 0) with kind := .array 5 .byte, interfaces := #[3, 4], accessFlags := 1041 }

/-- the primitive int -/
def k7 : Class := { plain "int" none with kind := .primitive 'I', accessFlags := 0x411 }
/-- [I -/
def k8 : Class := { plain "[I" (some 0) with kind := .array 7 .int, interfaces := #[3, 4], accessFlags := 1041 }

def heap : Heap := #[]
def classes : Array Class := #[k0, k1, k2, k3, k4, k5, k6, k7, k8]
def interned : List (Array UInt16 × Addr) := []
def slotsUsed : Nat := 0
def theMethod : MethodId := ⟨1, 2⟩
def args0 : Array Value := #[.int 5, .int 5]
def aboutOver (below : List Frame) : State where
  vm := { classes := classes, interned := interned.toArray }
  heap := heap
  slotsUsed := slotsUsed
  threads := #[{ frames := .invoking theMethod args0 :: below }]
def below0 : List Frame := [.native { method := ⟨0, 0⟩, args := #[] }]
def about1 : State := aboutOver below0
def p0 : Program := .bare "" "" ""
def e0 : Env := launch0.env 0 0 0
theorem w_frames : about1.frames = Frame.invoking theMethod args0 :: below0 := rfl
set_option maxRecDepth 65536 in
theorem w_args : argsFit about1.vm theMethod args0 = true := by decide +kernel
set_option maxRecDepth 65536 in
theorem w_heap : heapFits about1 = true := by decide +kernel
set_option maxRecDepth 65536 in
theorem w_runnable : about1.curStatus? = some .runnable := by decide +kernel
set_option maxRecDepth 65536 in
theorem w_alone : about1.alone = true := by decide +kernel
set_option maxRecDepth 65536 in
theorem w_named : about1.methodNamed? x = some theMethod := by decide +kernel
set_option maxRecDepth 65536 in
theorem w_hears : about1.hears theMethod below0 = true := by decide +kernel
set_option maxRecDepth 65536 in
theorem w_ripe : about1.ripe theMethod args0 below0 = true := by decide +kernel
theorem w_running : about1.status = .running := rfl
set_option maxRecDepth 65536 in
theorem w_room : about1.hasRoom e0.platform room_1 = true :=
  launch0.hasRoom_least _ room_1 (by decide +kernel) (by decide +kernel) (by decide +kernel) (by decide +kernel) (by decide +kernel) (by decide +kernel)
theorem allAtoms_all (ts : List Jvm.Cond) (a : Array Jvm.Value) (st : Jvm.State) : (allAtoms ts).before a st = ts.all (fun c => c.before a st) := by
  induction ts with
  | nil => rfl
  | cons c t ih =>
    show (Jvm.Cond.and c (allAtoms t)).before a st = _
    rw [Jvm.Cond.before_and, ih, List.all_cons]
def words1 : List Jvm.Cond := Jvm.Cond.code x code maxLocals ret :: tables_1
/-- a 'code' word, met by the world's own term for the bytes: nothing is compared byte by byte -/
theorem code_word {y : MethodName} {bytes : ByteArray} {mx : Nat} {rt : Option FieldType} {a : Array Value} {s : State} {m : MethodId} {meth : Method} {c : Code} (h1 : s.methodNamed? y = some m) (h2 : s.vm.method? m = some meth) (h3 : meth.code = some c) (h4 : c.code = bytes)
    (h5 : (c.maxLocals == mx && c.exceptionTable.isEmpty && decide (c.maxStack ≤ mostOperands) && decide (meth.sig.returnType = rt) && !meth.locks && decide (parseMethodDescriptor y.desc = some meth.sig)) = true) : (Jvm.Cond.code y bytes mx rt).before a s = true := by
  simp only [Bool.and_eq_true, beq_iff_eq, Bool.not_eq_true', decide_eq_true_eq] at h5
  obtain ⟨⟨⟨⟨⟨g1, g2⟩, g3⟩, g4⟩, g5⟩, g6⟩ := h5
  simp [Cond.before, Cond.holds, Cond.value, h1, h2, h3, h4, g1, g2, g3, g4, g5, g6]
def isCode : Jvm.Cond → Bool
  | .code _ _ _ _ => true
  | _ => false
theorem all_split {L : List Jvm.Cond} {P : Jvm.Cond → Bool} (h1 : L.all (fun c => isCode c || P c) = true) (h2 : ∀ c ∈ L.filter isCode, P c = true) : L.all P = true := by
  refine List.all_eq_true.mpr fun c hc => ?_
  have h := List.all_eq_true.mp h1 c hc
  rcases Bool.eq_false_or_eq_true (isCode c) with hi | hi
  · exact h2 c (List.mem_filter.mpr ⟨hc, hi⟩)
  · simpa [hi] using h
set_option maxRecDepth 65536 in
theorem w_c0 : (Jvm.Cond.code x code maxLocals ret).before args0 about1 = true := code_word (m := ⟨1, 2⟩) (meth := k1m2) (c := k1c2) (by decide +kernel) rfl rfl rfl (by decide +kernel)
set_option maxRecDepth 65536 in
theorem w_c1 : (Jvm.Cond.code ({ cls := "com/example/sealwire/sealwire/radius/RadiusCode", name := "hasComputedRequestAuthenticator", desc := "(I)Z" } : Jvm.MethodName) prog_36_method_2_code (1 : Nat) (Option.some Jvm.ClassFile.FieldType.boolean)).before args0 about1 = true := code_word (m := ⟨2, 1⟩) (meth := k2m1) (c := k2c1) (by decide +kernel) rfl rfl rfl (by decide +kernel)
set_option maxRecDepth 65536 in
theorem w_c2 : (Jvm.Cond.code ({ cls := "com/example/sealwire/sealwire/radius/RadiusCodeHasComputedRequestAuthenticatorPinLaw", name := "expected", desc := "(I)Z" } : Jvm.MethodName) method_2_code (1 : Nat) (Option.some Jvm.ClassFile.FieldType.boolean)).before args0 about1 = true := code_word (m := ⟨1, 1⟩) (meth := k1m1) (c := k1c1) (by decide +kernel) rfl rfl rfl (by decide +kernel)
def codes1 : List Jvm.Cond := [Jvm.Cond.code x code maxLocals ret, Jvm.Cond.code ({ cls := "com/example/sealwire/sealwire/radius/RadiusCode", name := "hasComputedRequestAuthenticator", desc := "(I)Z" } : Jvm.MethodName) prog_36_method_2_code (1 : Nat) (Option.some Jvm.ClassFile.FieldType.boolean), Jvm.Cond.code ({ cls := "com/example/sealwire/sealwire/radius/RadiusCodeHasComputedRequestAuthenticatorPinLaw", name := "expected", desc := "(I)Z" } : Jvm.MethodName) method_2_code (1 : Nat) (Option.some Jvm.ClassFile.FieldType.boolean)]
set_option maxRecDepth 65536 in
theorem codes_eq : words1.filter isCode = codes1 := rfl
theorem w_codes : ∀ c ∈ words1.filter isCode, c.before args0 about1 = true := by
  rw [codes_eq]
  intro c hc
  simp only [codes1, List.mem_cons, List.not_mem_nil, or_false] at hc
  rcases hc with rfl | rfl | rfl
  · exact w_c0
  · exact w_c1
  · exact w_c2
set_option maxRecDepth 65536 in
theorem w_t1 : words1.all (fun c => isCode c || c.before args0 about1) = true := by decide +kernel
theorem w_tables : (allAtoms (Jvm.Cond.code x code maxLocals ret :: tables_1)).before args0 about1 = true := by
  rw [allAtoms_all]
  show words1.all (fun c => c.before args0 about1) = true
  refine all_split ?_ w_codes
  rw [w_t1]
set_option maxRecDepth 65536 in
theorem w_case : (Jvm.Cond.and given_1 narrow_1).before args0 about1 = true := by decide +kernel
theorem w_applies : (headSpec (Jvm.Cond.code x code maxLocals ret :: tables_1) room_1).applies x e0.platform about1 = true :=
  (Spec.applies_iff w_frames).mpr ⟨w_running, w_runnable, w_alone, w_named, w_hears, w_ripe, w_room, w_tables⟩
theorem atStart : AtStart classFile x code maxLocals ret World_1 tables_1 room_1 Calls_1 rest_1 Pre_1 launch0 p0 e0 about1 theMethod args0 below0 :=
  ⟨lists_1, trivial, launch0.admits_env _ _ _, launch0.least_env, fairChoices_fair.cas, fairChoices_fair.clock, w_frames, w_args, w_heap, w_applies, trivial, trivial, w_case⟩
end start1
theorem witness_1 : WitnessClaimed_1 := ⟨start1.p0, start1.e0, start1.about1, start1.theMethod, start1.args0, start1.below0, start1.atStart⟩
end Jvm.Pilot.@@N@@
