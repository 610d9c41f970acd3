import JvmDerived
import JvmDerived.Pilot.@@N@@Statement
import JvmDerived.Pilot.@@N@@Code
set_option linter.unusedVariables false
set_option linter.unusedSimpArgs false
namespace Jvm.OwnKit
open Sem ClassFile Op Lib Jvm.Stand Jvm.Free Jvm.LawKit Jvm.RoadKit
/-! my own layer: an abstract heap of the objects and arrays that the law makes, and a run that goes on to its end -/
abbrev AH : Type := List (Nat × List Value)
abbrev Dic : Type := Nat → String × List (String × String × String)
def lf (n0 : Nat) : Value → Value
  | .ref i => .ref (n0 + i)
  | v => v
def aty : Nat → FieldType
  | 0 => .int
  | 1 => .char
  | 2 => .byte
  | 3 => .long
  | 4 => .boolean
  | _ => .short
def asI : Option Value → Option Int32
  | some (.int x) => some x
  | _ => none
def asJ : Option Value → Option Int64
  | some (.long x) => some x
  | _ => none
def asR : Option Value → Option Nat
  | some (.ref x) => some x
  | _ => none
theorem asI_s {o : Option Value} {x : Int32} (h : asI o = some x) : o = some (.int x) := by
  unfold asI at h; split at h <;> simp_all
theorem asJ_s {o : Option Value} {x : Int64} (h : asJ o = some x) : o = some (.long x) := by
  unfold asJ at h; split at h <;> simp_all
theorem asR_s {o : Option Value} {x : Nat} (h : asR o = some x) : o = some (.ref x) := by
  unfold asR at h; split at h <;> simp_all
/-- a field, a component: read, written -/
def h_fget (A : AH) (t a k : Nat) : Option Value := match A[a]? with
  | some (t', vs) => if t' = t then vs[k]? else none
  | none => none
def h_fset (A : AH) (t a k : Nat) (v : Value) : Option AH := match A[a]? with
  | some (t', vs) => if t' = t ∧ k < vs.length then some (A.set a (t', vs.set k v)) else none
  | none => none
def h_aget (A : AH) (t a : Nat) (j : Int32) : Option Value := if j < 0 then none else h_fget A t a j.toNatClampNeg
def h_aset (A : AH) (t a : Nat) (j : Int32) (v : Value) : Option AH := if j < 0 then none else h_fset A t a j.toNatClampNeg v
def h_alen (A : AH) (t a : Nat) : Option Int32 := match A[a]? with
  | some (t', vs) => if t' = t then some vs.length.toInt32 else none
  | none => none
def h_onew (A : AH) (t : Nat) (ds : List Value) : Option (Nat × AH) := some (A.length, A ++ [(t, ds)])
def h_anew (A : AH) (t cap : Nat) (n : Int32) (d : Value) : Option (Nat × AH) := if n < 0 ∨ cap < n.toNatClampNeg then none else some (A.length, A ++ [(t, List.replicate n.toNatClampNeg d)])
def h_isA (A : AH) (t a : Nat) : Option Unit := match A[a]? with
  | some (t', _) => if t' = t then some () else none
  | none => none
/-- what the heap holds of them -/
def OKa (Z : State) (h : Heap) (a : Addr) (ty : FieldType) (vs : List Value) : Prop := ∃ cl : Cell, Arr Z h a cl ty ∧ cl.slots.toList = vs ∧ vs.length < 2 ^ 31 ∧ ∀ v ∈ vs, fits ty v = true
def OKo (Z : State) (h : Heap) (a : Addr) (C : String) (L : List (String × String × String)) (vs : List Value) : Prop := Exa Z h a C ∧ ∀ (k : Nat) (O n d : String) (v : Value), L[k]? = some (O, n, d) → vs[k]? = some v → Fld Z h a O n d v
def OKx (D : Dic) (Z : State) (h : Heap) (a : Addr) (t : Nat) (vs : List Value) : Prop := (t < 10 → OKa Z h a (aty t) vs) ∧ (10 ≤ t → OKo Z h a (D t).1 (D t).2 vs)
def Rep (D : Dic) (Z : State) (n0 : Nat) (h : Heap) (A : AH) : Prop := h.size = n0 + A.length ∧ ∀ (i t : Nat) (vs : List Value), A[i]? = some (t, vs) → OKx D Z h (n0 + i) t (vs.map (lf n0))
def Sep (Z : State) (L : List (String × String × String)) : Prop := ∀ (k k' : Nat) (O n d O' n' d' : String), L[k]? = some (O, n, d) → L[k']? = some (O', n', d') → k ≠ k' → Jvm.RoadKit.slotOf Z O n d ≠ Jvm.RoadKit.slotOf Z O' n' d'
theorem Sep.nil {Z : State} : Sep Z [] := fun k k' O n d O' n' d' h => by simp at h
theorem sep_of {Z : State} {a0 : Array Value} {C : String} {L : List (String × String × String)} (hl : ∀ x ∈ L, Laid Z a0 C x.1 x.2.1 x.2.2 ∧ (parseFieldDescriptor x.2.2).isSome = true) (hn : (L.map fun x => x.2.1).Nodup) : Sep Z L := by
  intro k k' O n d O' n' d' h h' ne
  obtain ⟨l1, p1⟩ := hl _ (List.mem_of_getElem? h)
  obtain ⟨l2, p2⟩ := hl _ (List.mem_of_getElem? h')
  obtain ⟨t1, e1⟩ := Option.isSome_iff_exists.mp p1
  obtain ⟨t2, e2⟩ := Option.isSome_iff_exists.mp p2
  refine slot_ne l1 l2 ?_ e1 e2
  intro q
  obtain ⟨b1, g1⟩ := List.getElem?_eq_some_iff.mp h
  obtain ⟨b2, g2⟩ := List.getElem?_eq_some_iff.mp h'
  refine ne ((List.getElem_inj (xs := L.map fun x => x.2.1) (h₀ := by simpa using b1) (h₁ := by simpa using b2) hn).mp ?_)
  simp only [List.getElem_map, g1, g2]; exact q
section Facts
variable {D : Dic} {Z : State} {n0 : Nat} {h h' : Heap} {A A' : AH} {t a k : Nat} {v : Value}
theorem fget_s (hg : h_fget A t a k = some v) : ∃ vs, A[a]? = some (t, vs) ∧ vs[k]? = some v := by
  unfold h_fget at hg; split at hg
  · rename_i t' vs e
    split at hg
    · rename_i q; subst q; exact ⟨vs, e, hg⟩
    · cases hg
  · cases hg
theorem fset_s (hg : h_fset A t a k v = some A') : ∃ vs, A[a]? = some (t, vs) ∧ k < vs.length ∧ A' = A.set a (t, vs.set k v) := by
  unfold h_fset at hg; split at hg
  · rename_i t' vs e
    split at hg
    · rename_i q; obtain ⟨rfl, q⟩ := q; exact ⟨vs, e, q, (Option.some.inj hg).symm⟩
    · cases hg
  · cases hg
theorem aget_s {j : Int32} (hg : h_aget A t a j = some v) : ¬ j < 0 ∧ h_fget A t a j.toNatClampNeg = some v := by
  unfold h_aget at hg; split at hg
  · cases hg
  · exact ⟨by assumption, hg⟩
theorem aset_s {j : Int32} (hg : h_aset A t a j v = some A') : ¬ j < 0 ∧ h_fset A t a j.toNatClampNeg v = some A' := by
  unfold h_aset at hg; split at hg
  · cases hg
  · exact ⟨by assumption, hg⟩
theorem isA_s {u : Unit} (hg : h_isA A t a = some u) : ∃ vs, A[a]? = some (t, vs) := by
  unfold h_isA at hg; split at hg
  · rename_i t' vs e
    split at hg
    · rename_i q; subst q; exact ⟨vs, e⟩
    · cases hg
  · cases hg
theorem Rep.exa (RA : Rep D Z n0 h A) (ht : 10 ≤ t) {vs : List Value} (hA : A[a]? = some (t, vs)) : Exa Z h (n0 + a) (D t).1 := ((RA.2 a t vs hA).2 ht).1
theorem Rep.fld (RA : Rep D Z n0 h A) (ht : 10 ≤ t) (hg : h_fget A t a k = some v) {O n d : String} (hk : (D t).2[k]? = some (O, n, d)) : Fld Z h (n0 + a) O n d (lf n0 v) := by
  obtain ⟨vs, e, q⟩ := fget_s hg
  exact ((RA.2 a t vs e).2 ht).2 k O n d _ hk (by simp [q])
theorem Rep.arr (RA : Rep D Z n0 h A) (ht : t < 10) {vs : List Value} (hA : A[a]? = some (t, vs)) : ∃ cl : Cell, Arr Z h (n0 + a) cl (aty t) ∧ cl.slots.toList = vs.map (lf n0) ∧ vs.length < 2 ^ 31 ∧ ∀ v ∈ vs.map (lf n0), fits (aty t) v = true := by
  obtain ⟨cl, h1, h2, h3, h4⟩ := (RA.2 a t vs hA).1 ht
  exact ⟨cl, h1, h2, by simpa using h3, h4⟩
theorem Rep.at (RA : Rep D Z n0 h A) (ht : t < 10) {j : Int32} (hg : h_aget A t a j = some v) : ∃ cl : Cell, Arr Z h (n0 + a) cl (aty t) ∧ ¬ (j < 0 ∨ cl.slots.size ≤ j.toNatClampNeg) ∧ cl.slots[j.toNatClampNeg]? = some (lf n0 v) := by
  obtain ⟨hj, hg⟩ := aget_s hg
  obtain ⟨vs, e, q⟩ := fget_s hg
  obtain ⟨cl, h1, h2, -⟩ := RA.arr ht e
  have h4 : cl.slots[j.toNatClampNeg]? = some (lf n0 v) := by rw [← Array.getElem?_toList, h2]; simp [q]
  refine ⟨cl, h1, ?_, h4⟩
  rintro (c | c)
  · exact hj c
  · exact absurd (Array.getElem?_eq_some_iff.mp h4).1 (Nat.not_lt.mpr c)
theorem OKx.other {sl : Nat} {w : Value} {b : Addr} {vs : List Value} (X : OKx D Z h b t vs) (W : Wr h h' a sl w) (ne : b ≠ a) : OKx D Z h' b t vs := by
  refine ⟨fun q => ?_, fun q => ?_⟩
  · obtain ⟨cl, h1, h2⟩ := X.1 q; exact ⟨cl, h1.other W ne, h2⟩
  · obtain ⟨h1, h2⟩ := X.2 q; exact ⟨h1.wr W, fun k O n d v e1 e2 => (h2 k O n d v e1 e2).other W (Or.inl ne)⟩
theorem Rep.set (RA : Rep D Z n0 h A) {sl : Nat} {w : Value} {vs : List Value} (hl : a < A.length) (W : Wr h h' (n0 + a) sl w) (hN : OKx D Z h' (n0 + a) t (vs.map (lf n0))) : Rep D Z n0 h' (A.set a (t, vs)) := by
  refine ⟨by rw [W.size, RA.1, List.length_set], fun i t' vs' e => ?_⟩
  by_cases q : a = i
  · subst q
    rw [List.getElem?_set_self hl] at e
    obtain ⟨rfl, rfl⟩ := Prod.mk.inj (Option.some.inj e); exact hN
  · rw [List.getElem?_set_ne q] at e
    exact (RA.2 i t' vs' e).other W (fun z => q (Nat.add_left_cancel z).symm)
theorem Rep.wrF (sep : Sep Z (D t).2) (RA : Rep D Z n0 h A) (ht : 10 ≤ t) (hp : h_fset A t a k v = some A') {O n d : String} (hk : (D t).2[k]? = some (O, n, d)) (W : Wr h h' (n0 + a) (Jvm.RoadKit.slotOf Z O n d) (lf n0 v)) : Rep D Z n0 h' A' := by
  obtain ⟨vs, e, q, rfl⟩ := fset_s hp
  refine RA.set (List.getElem?_eq_some_iff.mp e).1 W ⟨fun z => absurd ht (by omega), fun _ => ?_⟩
  obtain ⟨h1, h2⟩ := (RA.2 a t vs e).2 ht
  refine ⟨h1.wr W, fun k' O' n' d' v' e1 e2 => ?_⟩
  rw [List.map_set] at e2
  by_cases c : k = k'
  · subst c
    rw [List.getElem?_set_self (by simpa using q)] at e2
    cases hk.symm.trans e1
    cases e2
    exact (h2 k O n d _ hk (List.getElem?_eq_getElem (by simpa using q))).same W
  · rw [List.getElem?_set_ne c] at e2
    exact (h2 k' O' n' d' v' e1 e2).other W (Or.inr (sep k' k O' n' d' O n d e1 hk (Ne.symm c)))
theorem Rep.wrA (RA : Rep D Z n0 h A) (ht : t < 10) {j : Int32} (hp : h_aset A t a j v = some A') (hft : fits (aty t) (lf n0 v) = true) (W : Wr h h' (n0 + a) j.toNatClampNeg (lf n0 v)) : Rep D Z n0 h' A' := by
  obtain ⟨-, hp⟩ := aset_s hp
  obtain ⟨vs, e, q, rfl⟩ := fset_s hp
  refine RA.set (List.getElem?_eq_some_iff.mp e).1 W ⟨fun z => ?_, fun z => absurd ht (by omega)⟩
  obtain ⟨cl, h1, h2, h3, h4⟩ := RA.arr ht e
  refine ⟨_, h1.same W, ?_, by simpa using h3, fun u hu => ?_⟩
  · show (cl.slots.setIfInBounds _ _).toList = _
    rw [Array.toList_setIfInBounds, h2, List.map_set]
  · rw [List.map_set] at hu
    rcases List.mem_or_eq_of_mem_set hu with q | q
    · exact h4 u q
    · rw [q]; exact hft
theorem Rep.into (RA : Rep D Z n0 h A) (ht : t < 10) {j : Int32} (hp : h_aset A t a j v = some A') : ∃ cl : Cell, Arr Z h (n0 + a) cl (aty t) ∧ ¬ (j < 0 ∨ cl.slots.size ≤ j.toNatClampNeg) := by
  obtain ⟨hj, hp⟩ := aset_s hp
  obtain ⟨vs, e, q, rfl⟩ := fset_s hp
  obtain ⟨cl, h1, h2, -⟩ := RA.arr ht e
  refine ⟨cl, h1, ?_⟩
  have : cl.slots.size = vs.length := by rw [← Array.length_toList, h2]; simp
  rintro (c | c)
  · exact hj c
  · omega
theorem OKx.ext {b : Addr} {vs : List Value} (X : OKx D Z h b t vs) (E : Ext h h') : OKx D Z h' b t vs := by
  refine ⟨fun q => ?_, fun q => ?_⟩
  · obtain ⟨cl, h1, h2⟩ := X.1 q; exact ⟨cl, h1.ext E, h2⟩
  · obtain ⟨h1, h2⟩ := X.2 q; exact ⟨h1.ext E, fun k O n d v e1 e2 => (h2 k O n d v e1 e2).ext E⟩
theorem ext_push (h : Heap) (cl : Cell) : Ext h (h.push cl) := ⟨by simp, fun a c e => by rw [Array.getElem?_push_lt (Array.getElem?_eq_some_iff.mp e).1]; exact (Array.getElem?_eq_getElem _).symm.trans e⟩
theorem Rep.push (RA : Rep D Z n0 h A) {cl : Cell} {vs : List Value} (hN : OKx D Z (h.push cl) h.size t (vs.map (lf n0))) : Rep D Z n0 (h.push cl) (A ++ [(t, vs)]) := by
  refine ⟨by rw [Array.size_push, RA.1, List.length_append]; rfl, fun i t' vs' e => ?_⟩
  by_cases q : i < A.length
  · rw [List.getElem?_append_left q] at e
    exact (RA.2 i t' vs' e).ext (ext_push h cl)
  · rw [List.getElem?_append_right (Nat.le_of_not_lt q)] at e
    have e0 : i - A.length = 0 := by
      have := (List.getElem?_eq_some_iff.mp e).1; simp at this; omega
    rw [e0] at e
    obtain ⟨rfl, rfl⟩ := Prod.mk.inj (Option.some.inj e)
    have : i = A.length := by omega
    have e2 : n0 + i = h.size := by rw [RA.1, this]
    rw [e2]; exact hN
end Facts
/-! reading and writing, in plain words -/
theorem nar1 : nar .boolean (1 : Int32) = 1 := by decide
theorem nar0 : nar .boolean (0 : Int32) = 0 := by decide
theorem nclamp (j : Int32) : j.toNatClampNeg = j.toInt.toNat := rfl
theorem nneg {j : Int32} : ¬ j < 0 ↔ 0 ≤ j.toInt := by rw [Int32.lt_iff_toInt_lt]; show ¬ _ < (0 : Int) ↔ _; omega
theorem aset_ok {A : AH} {t a : Nat} {vs : List Value} {j : Int32} {v : Value} (hA : A[a]? = some (t, vs)) (h0 : 0 ≤ j.toInt) (h1 : j.toInt < vs.length) : h_aset A t a j v = some (A.set a (t, vs.set j.toInt.toNat v)) := by
  unfold h_aset; rw [if_neg (nneg.mpr h0)]; unfold h_fset; rw [hA]; simp only [nclamp]
  have : j.toInt.toNat < vs.length := by omega
  rw [if_pos ⟨trivial, this⟩]
theorem aget_ok {A : AH} {t a : Nat} {vs : List Value} {j : Int32} (hA : A[a]? = some (t, vs)) (h0 : 0 ≤ j.toInt) : h_aget A t a j = vs[j.toInt.toNat]? := by
  unfold h_aget; rw [if_neg (nneg.mpr h0)]; unfold h_fget; rw [hA]; simp only [nclamp, if_true]
theorem anew_ok {A : AH} {t cap : Nat} {n : Int32} {d : Value} (h0 : 0 ≤ n.toInt) (h1 : n.toInt ≤ cap) : h_anew A t cap n d = some (A.length, A ++ [(t, List.replicate n.toInt.toNat d)]) := by
  unfold h_anew; rw [nclamp, if_neg (by rintro (c | c); exact nneg.mpr h0 c; omega)]
theorem aset1 {t : Nat} {vs : List Value} {j : Int32} {v : Value} (h0 : 0 ≤ j.toInt) (h1 : j.toInt < vs.length) : h_aset [(t, vs)] t 0 j v = some [(t, vs.set j.toInt.toNat v)] := aset_ok rfl h0 h1
theorem aget1 {t : Nat} {vs : List Value} {j : Int32} (h0 : 0 ≤ j.toInt) : h_aget [(t, vs)] t 0 j = vs[j.toInt.toNat]? := aget_ok rfl h0
/-! ### a run that goes on to its end -/
def Go (p : Program) (e : Env) (below : List Frame) (S : State) (G : Outcome → State → Prop) : Prop := ∃ t o, Steps p.tables e below S t ∧ t.status = .running ∧ Ended t below o ∧ G o t
def QR (D : Dic) (Z : State) (n0 : Nat) (r : Option Value) (A : AH) (v : Option Value) (h : Heap) (L : List Loc) : Prop := v = r ∧ Fr n0 L ∧ Rep D Z n0 h A
def Fini (D : Dic) (Z : State) (n0 : Nat) (s : State) (R : Room) (r : Option Value) (A : AH) : Outcome → State → Prop := fun o t => ∃ v L, o = .returned v ∧ QR D Z n0 r A v t.heap L ∧ FrameEnd s o t L R.cells R.slots
def On (p : Program) (l : Launch) (e : Env) (R : Room) (s : State) (m : MethodId) (args : Array Value) (below : List Frame) (meth : Method) (c : Code) (D : Dic) (Z : State) (n0 : Nat) (T : State) (A : AH) (cells slots : Nat) : Prop :=
  ∃ locs, Stand p l e R s m args below meth c T locs cells slots ∧ Fr n0 locs ∧ Rep D Z n0 T.heap A
def Cx (p : Program) (l : Launch) (e : Env) (R : Room) (s : State) (m : MethodId) (meth : Method) (c : Code) (Z : State) (a0 : Array Value) (W : List Jvm.Cond) (own nm : String) (bytes : ByteArray) (ml : Nat) (rt : Option FieldType) : Prop :=
  p.tables.exec = Jvm.exec ∧ Z.Warmed39 s.vm ∧ s.vm.findClass own = some m.cls ∧ c.code = bytes ∧ c.maxLocals = ml ∧ meth.sig.returnType = rt ∧ meth.locks = false ∧ meth.name = nm ∧ ∀ d ∈ W, d.before a0 Z = true
def Met (l : Launch) (D : Dic) (Z : State) (n0 : Nat) (y : MethodName) (bytes : ByteArray) (ml : Nat) (rt : Option FieldType) (R : Room) (as : List Value) (A : AH) (r : Option Value) (A' : AH) : Prop :=
  ∀ (ws : List Jvm.Cond) (h0 : Heap), Rep D Z n0 h0 A → MetFree l y (head1 (Jvm.Cond.code y bytes ml rt :: ws) R) (fun a U => a = as.toArray ∧ Z.Warmed39 U.vm ∧ U.heap = h0) (fun _ _ _ _ _ => True) (fun _ U o U' => ∃ v L, o = .returned v ∧ QR D Z n0 r A' v U'.heap L ∧ FrameEnd U o U' L R.cells R.slots)
section Walk
variable {p : Program} {l : Launch} {e : Env} {R : Room} {s : State} {m : MethodId} {args : Array Value} {below : List Frame} {meth : Method} {c : Code} {Z : State} {a0 : Array Value} {W : List Jvm.Cond} {own nm : String} {bytes : ByteArray} {ml : Nat} {rt : Option FieldType} {D : Dic} {n0 : Nat} {T : State} {A A' : AH} {cells slots : Nat} {G : Outcome → State → Prop} {pc : Nat} {Ls : Array Slot} {st : List Value}
theorem go {S S' : State} (h : ∀ t, Steps p.tables e below S' t → Steps p.tables e below S t) (k : Go p e below S' G) : Go p e below S G := by
  obtain ⟨t, o, h1, h2⟩ := k; exact ⟨t, o, h t h1, h2⟩
theorem On.here (X : On p l e R s m args below meth c D Z n0 T A cells slots) : At T m c below := by obtain ⟨_, X, -⟩ := X; exact X.here
theorem On.more {cells' slots' : Nat} (X : On p l e R s m args below meth c D Z n0 T A cells slots) (hc : cells ≤ cells') (hs : slots ≤ slots') : On p l e R s m args below meth c D Z n0 T A cells' slots' := by
  obtain ⟨locs, X, N⟩ := X; exact ⟨locs, X.more hc hs, N⟩
theorem wd {d : Jvm.Cond} (K : Cx p l e R s m meth c Z a0 W own nm bytes ml rt) {i : Nat} (h : W[i]? = some d) : d.before a0 Z = true := K.2.2.2.2.2.2.2.2 d (List.mem_of_getElem? h)
theorem dc (K : Cx p l e R s m meth c Z a0 W own nm bytes ml rt) {r : Except DecodeError (Instr × Nat)} (h : decode bytes pc = r) : decode c.code pc = r := K.2.2.2.1 ▸ h
theorem ldcI (K : Cx p l e R s m meth c Z a0 W own nm bytes ml rt) (X : On p l e R s m args below meth c D Z n0 T A cells slots) {i idx : Nat} {v : Int32} (w : W[i]? = some (.constant own idx v)) (hd : decode bytes pc = .ok (.ldc idx, 2))
    {pc' : Nat} (hp : pc + 2 = pc') (k : Go p e below (T.setTop (mkF m pc'  Ls (.int v :: st))) G) : Go p e below (T.setTop (mkF m pc Ls st)) G := by
  subst hp
  obtain ⟨locs, X, -⟩ := X
  exact go (X.ldcInt K.1 K.2.2.1 (mvT K.2.1 (wd K w)) (g := mkF m pc Ls st) rfl (dc K hd)) k
theorem ldcwI (K : Cx p l e R s m meth c Z a0 W own nm bytes ml rt) (X : On p l e R s m args below meth c D Z n0 T A cells slots) {i idx : Nat} {v : Int32} (w : W[i]? = some (.constant own idx v)) (hd : decode bytes pc = .ok (.ldc_w idx, 3))
    {pc' : Nat} (hp : pc + 3 = pc') (k : Go p e below (T.setTop (mkF m pc'  Ls (.int v :: st))) G) : Go p e below (T.setTop (mkF m pc Ls st)) G := by
  subst hp
  obtain ⟨locs, X, -⟩ := X
  exact go (X.ldcwInt K.1 K.2.2.1 (mvT K.2.1 (wd K w)) (g := mkF m pc Ls st) rfl (dc K hd)) k
theorem ldcL (K : Cx p l e R s m meth c Z a0 W own nm bytes ml rt) (X : On p l e R s m args below meth c D Z n0 T A cells slots) {i idx : Nat} {v : Int64} (w : W[i]? = some (.constantLong own idx v)) (hd : decode bytes pc = .ok (.ldc2_w idx, 3))
    {pc' : Nat} (hp : pc + 3 = pc') (k : Go p e below (T.setTop (mkF m pc'  Ls (.long v :: st))) G) : Go p e below (T.setTop (mkF m pc Ls st)) G := by
  subst hp
  obtain ⟨locs, X, -⟩ := X
  exact go (X.ldc2Long K.1 K.2.2.1 (mvT K.2.1 (wd K w)) (g := mkF m pc Ls st) rfl (dc K hd)) k
/-! the returns -/
theorem retV (K : Cx p l e R s m meth c Z a0 W own nm bytes ml none) (X : On p l e R s m args below meth c D Z n0 T A cells slots) (hc : cells ≤ R.cells) (hs : slots ≤ R.slots) (hd : decode bytes pc = .ok (.return_, 1)) :
    Go p e below (T.setTop (mkF m pc Ls [])) (Fini D Z n0 s R none A) := by
  obtain ⟨locs, X, N, RA⟩ := X
  obtain ⟨fs, hr, hrun, hended, hW, hsame⟩ := X.leave (v := none) (fun _ => rfl) K.2.2.2.2.2.2.1
  exact ⟨_, _, X.returnOut K.1 K.2.2.2.2.2.1 (dc K hd) hr, hrun, hended, none, locs, rfl, ⟨rfl, N, RA⟩, ⟨_, rfl⟩, hW, hsame.mono hc hs⟩
theorem retX {t : FieldType} {i : Instr} {w : Value} (K : Cx p l e R s m meth c Z a0 W own nm bytes ml (some t)) (X : On p l e R s m args below meth c D Z n0 T A cells slots) (hc : cells ≤ R.cells) (hs : slots ≤ R.slots) (hd : decode bytes pc = .ok (i, 1)) (hn : narrow t w = w)
    (hi : (i = .ireturn ∧ (t = .int ∨ t = .boolean ∨ t = .byte ∨ t = .char ∨ t = .short) ∧ ∃ z, w = .int z) ∨ (i = .lreturn ∧ t = .long ∧ ∃ z, w = .long z) ∨ (i = .dreturn ∧ t = .double ∧ ∃ z, w = .double z) ∨ (i = .freturn ∧ t = .float ∧ ∃ z, w = .float z) ∨ (i = .areturn ∧ t.isReference = true ∧ w.isRef = true)) :
    Go p e below (T.setTop (mkF m pc Ls (w :: st))) (Fini D Z n0 s R (some w) A) := by
  obtain ⟨locs, X, N, RA⟩ := X
  obtain ⟨fs, hr, hrun, hended, hW, hsame⟩ := X.leave (v := some w) (fun h => by rw [K.2.2.2.2.2.1] at h; cases h) K.2.2.2.2.2.2.1
  exact ⟨_, _, Jvm.RoadKit.retOut X K.1 K.2.2.2.2.2.1 hn hi (dc K hd) hr, hrun, hended, some w, locs, rfl, ⟨rfl, N, RA⟩, ⟨_, rfl⟩, hW, hsame.mono hc hs⟩
theorem retI {z : Int32} (K : Cx p l e R s m meth c Z a0 W own nm bytes ml (some .int)) (X : On p l e R s m args below meth c D Z n0 T A cells slots) (hc : cells ≤ R.cells) (hs : slots ≤ R.slots) (hd : decode bytes pc = .ok (.ireturn, 1)) :
    Go p e below (T.setTop (mkF m pc Ls (.int z :: st))) (Fini D Z n0 s R (some (.int z)) A) := retX K X hc hs hd rfl (Or.inl ⟨rfl, Or.inl rfl, z, rfl⟩)
theorem retJ {z : Int64} (K : Cx p l e R s m meth c Z a0 W own nm bytes ml (some .long)) (X : On p l e R s m args below meth c D Z n0 T A cells slots) (hc : cells ≤ R.cells) (hs : slots ≤ R.slots) (hd : decode bytes pc = .ok (.lreturn, 1)) :
    Go p e below (T.setTop (mkF m pc Ls (.long z :: st))) (Fini D Z n0 s R (some (.long z)) A) := retX K X hc hs hd rfl (Or.inr (Or.inl ⟨rfl, rfl, z, rfl⟩))
theorem retR {a : Addr} {t : FieldType} (K : Cx p l e R s m meth c Z a0 W own nm bytes ml (some t)) (ht : t.isReference = true) (hn : narrow t (.ref a) = .ref a) (X : On p l e R s m args below meth c D Z n0 T A cells slots) (hc : cells ≤ R.cells) (hs : slots ≤ R.slots) (hd : decode bytes pc = .ok (.areturn, 1)) :
    Go p e below (T.setTop (mkF m pc Ls (.ref a :: st))) (Fini D Z n0 s R (some (.ref a)) A) := retX K X hc hs hd hn (Or.inr (Or.inr (Or.inr (Or.inr ⟨rfl, ht, rfl⟩))))
theorem retB {z : Int32} {t : FieldType} (K : Cx p l e R s m meth c Z a0 W own nm bytes ml (some t)) (ht : t = .boolean ∨ t = .byte ∨ t = .char ∨ t = .short) (X : On p l e R s m args below meth c D Z n0 T A cells slots) (hc : cells ≤ R.cells) (hs : slots ≤ R.slots) (hd : decode bytes pc = .ok (.ireturn, 1)) :
    Go p e below (T.setTop (mkF m pc Ls (.int z :: st))) (Fini D Z n0 s R (some (.int (nar t z))) A) := by
  obtain ⟨locs, X, N, RA⟩ := X
  obtain ⟨fs, hr, hrun, hended, hW, hsame⟩ := X.leave (v := some (.int (nar t z))) (fun h => by rw [K.2.2.2.2.2.1] at h; cases h) K.2.2.2.2.2.2.1
  exact ⟨_, _, Jvm.RoadKit.retN X K.1 K.2.2.2.2.2.1 ht (dc K hd) hr, hrun, hended, some (.int (nar t z)), locs, rfl, ⟨rfl, N, RA⟩, ⟨_, rfl⟩, hW, hsame.mono hc hs⟩
/-! fields -/
theorem getf (K : Cx p l e R s m meth c Z a0 W own nm bytes ml rt) (X : On p l e R s m args below meth c D Z n0 T A cells slots) {i idx t f a : Nat} {O n d : String} {v : Value} (w : W[i]? = some (.fieldLink own idx O n d)) (hd : decode bytes pc = .ok (.getfield idx, 3))
    (ht : 10 ≤ t) (hk : (D t).2[f]? = some (O, n, d)) (hg : h_fget A t a f = some v)
    {pc' : Nat} (hp : pc + 3 = pc') (k : ∀ T', On p l e R s m args below meth c D Z n0 T' A cells slots → Go p e below (T'.setTop (mkF m pc'  Ls (lf n0 v :: st))) G) : Go p e below (T.setTop (mkF m pc Ls (.ref (n0 + a) :: st))) G := by
  subst hp
  obtain ⟨locs, X, N, RA⟩ := X
  obtain ⟨T', X', e', stp⟩ := getF X K.1 K.2.1 K.2.2.1 (host := "") (Or.inl (wd K w)) Via.refl rfl (RA.fld ht hg hk) (g := mkF m pc Ls (.ref (n0 + a) :: st)) rfl rfl (dc K hd)
  exact go stp (k T' ⟨locs, X', N, by rw [e']; exact RA⟩)
theorem getfI (K : Cx p l e R s m meth c Z a0 W own nm bytes ml rt) (X : On p l e R s m args below meth c D Z n0 T A cells slots) {i idx t f a : Nat} {O n d : String} {v : Int32} (w : W[i]? = some (.fieldLink own idx O n d)) (hd : decode bytes pc = .ok (.getfield idx, 3))
    (ht : 10 ≤ t) (hk : (D t).2[f]? = some (O, n, d)) (hg : asI (h_fget A t a f) = some v)
    {pc' : Nat} (hp : pc + 3 = pc') (k : ∀ T', On p l e R s m args below meth c D Z n0 T' A cells slots → Go p e below (T'.setTop (mkF m pc' Ls (.int v :: st))) G) : Go p e below (T.setTop (mkF m pc Ls (.ref (n0 + a) :: st))) G := getf K X w hd ht hk (asI_s hg) hp k
theorem getfJ (K : Cx p l e R s m meth c Z a0 W own nm bytes ml rt) (X : On p l e R s m args below meth c D Z n0 T A cells slots) {i idx t f a : Nat} {O n d : String} {v : Int64} (w : W[i]? = some (.fieldLink own idx O n d)) (hd : decode bytes pc = .ok (.getfield idx, 3))
    (ht : 10 ≤ t) (hk : (D t).2[f]? = some (O, n, d)) (hg : asJ (h_fget A t a f) = some v)
    {pc' : Nat} (hp : pc + 3 = pc') (k : ∀ T', On p l e R s m args below meth c D Z n0 T' A cells slots → Go p e below (T'.setTop (mkF m pc' Ls (.long v :: st))) G) : Go p e below (T.setTop (mkF m pc Ls (.ref (n0 + a) :: st))) G := getf K X w hd ht hk (asJ_s hg) hp k
theorem getfR (K : Cx p l e R s m meth c Z a0 W own nm bytes ml rt) (X : On p l e R s m args below meth c D Z n0 T A cells slots) {i idx t f a : Nat} {O n d : String} {v : Nat} (w : W[i]? = some (.fieldLink own idx O n d)) (hd : decode bytes pc = .ok (.getfield idx, 3))
    (ht : 10 ≤ t) (hk : (D t).2[f]? = some (O, n, d)) (hg : asR (h_fget A t a f) = some v)
    {pc' : Nat} (hp : pc + 3 = pc') (k : ∀ T', On p l e R s m args below meth c D Z n0 T' A cells slots → Go p e below (T'.setTop (mkF m pc' Ls (.ref (n0 + v) :: st))) G) : Go p e below (T.setTop (mkF m pc Ls (.ref (n0 + a) :: st))) G := getf K X w hd ht hk (asR_s hg) hp k
theorem putf (K : Cx p l e R s m meth c Z a0 W own nm bytes ml rt) (sep : ∀ t, Sep Z (D t).2) (X : On p l e R s m args below meth c D Z n0 T A cells slots) {i idx t f a kk i2 : Nat} {O n d : String} {va v : Value} {ty : FieldType} (w : W[i]? = some (.fieldLink own idx O n d)) (hd : decode bytes pc = .ok (.putfield idx, 3))
    (ht : 10 ≤ t) (hk : (D t).2[f]? = some (O, n, d)) (wl : (Jvm.Cond.lays (D t).1 O n d).before a0 Z = true ∨ ((Jvm.Cond.laysFinal (D t).1 O n d).before a0 Z = true ∧ own = O ∧ nm = "<init>")) (wi : W[i2]? = some (.instantiable (D t).1 kk))
    (hty : parseFieldDescriptor d = some ty) (hn : narrow ty v = lf n0 va) (hf : fits ty (lf n0 va) = true) (hp : h_fset A t a f va = some A')
    {pc' : Nat} (hp : pc + 3 = pc') (k : ∀ T', On p l e R s m args below meth c D Z n0 T' A' cells slots → Go p e below (T'.setTop (mkF m pc'  Ls st)) G) : Go p e below (T.setTop (mkF m pc Ls (v :: .ref (n0 + a) :: st))) G := by
  subst hp
  obtain ⟨locs, X, N, RA⟩ := X
  obtain ⟨vs, hA, hlt, -⟩ := fset_s hp
  have F := RA.fld ht (show h_fget A t a f = some vs[f] by simp [h_fget, hA]) hk
  obtain ⟨T', h', X', e', W', stp⟩ := putFN X K.1 K.2.1 K.2.2.1 (wd K w) Via.refl rfl F (RA.exa ht hA) (wl.imp id fun q => ⟨q.1, q.2.1, K.2.2.2.2.2.2.2.1.trans q.2.2⟩) (wd K wi) hty hn hf (g := mkF m pc Ls (v :: .ref (n0 + a) :: st)) rfl rfl (dc K hd)
  exact go stp (k T' ⟨_, X', Fr.snoc X' N (Nat.le_add_right _ _), by rw [e']; exact RA.wrF (sep t) ht hp hk W'⟩)
/-! new -/
theorem newo (K : Cx p l e R s m meth c Z a0 W own nm bytes ml rt) (X : On p l e R s m args below meth c D Z n0 T A cells slots) {i1 i2 i3 idx n t : Nat} {ds : List Value} (w1 : W[i1]? = some (.classLink own idx (D t).1)) (w2 : W[i2]? = some (.instantiable (D t).1 n)) (w3 : W[i3]? = some (.initialized (D t).1))
    (hd : decode bytes pc = .ok (.new idx, 3)) (hc : cells + 1 ≤ R.cells) (hs : slots + n ≤ R.slots) (ht : 10 ≤ t) (hds : ∀ (k : Nat) (O f d : String) (v : Value), (D t).2[k]? = some (O, f, d) → ds[k]? = some v → ∃ ty, parseFieldDescriptor d = some ty ∧ Laid Z a0 (D t).1 O f d ∧ lf n0 v = defaultValue ty)
    {q : Nat × AH} (hq : h_onew A t ds = some q)
    {pc' : Nat} (hp : pc + 3 = pc') (k : ∀ T', On p l e R s m args below meth c D Z n0 T' q.2 (cells + 1) (slots + n) → Go p e below (T'.setTop (mkF m pc'  Ls (.ref (n0 + q.1) :: st))) G) : Go p e below (T.setTop (mkF m pc Ls st)) G := by
  subst hp
  cases hq
  obtain ⟨locs, X, N, RA⟩ := X
  obtain ⟨vm', cC, kC, h1, h2, h3, h4, X', stp⟩ := X.newCold K.1 K.2.2.1 (mvT K.2.1 (wd K w1)) (mvT K.2.1 (wd K w2)) (mvT K.2.1 (wd K w3)) (g := mkF m pc Ls st) rfl (dc K hd) hc hs
  have hZ := K.2.1
  rw [hZ.alike.findClass] at h1
  obtain ⟨kZ, z1, -⟩ := Vm.findClass_spec h1
  obtain ⟨k', z2, z3⟩ := hZ.alike.2.2 _ _ z1
  cases h2.symm.trans z2
  have ei : kC.instanceTypes = kZ.instanceTypes := by rw [z3]
  have hN : (T.heap.push { cls := cC, slots := kC.instanceTypes.map defaultValue, vm := .none })[T.heap.size]? = some { cls := cC, slots := kC.instanceTypes.map defaultValue, vm := .none } := by simp
  have hsz := RA.1
  refine go stp ?_
  rw [hsz]
  refine k _ ⟨locs, X', N, ?_⟩
  show Rep D Z n0 (T.heap.push _) _
  refine RA.push ⟨fun z => absurd ht (by omega), fun _ => ⟨⟨_, kZ, hN, h1, z1, rfl, fun _ => by simp [ei]⟩, fun j O f d v e1 e2 => ?_⟩⟩
  rw [List.getElem?_map, Option.map_eq_some_iff] at e2
  obtain ⟨v0, e2, rfl⟩ := e2
  obtain ⟨ty, p1, p2, p3⟩ := hds j O f d v0 e1 e2
  obtain ⟨c1, k1, cf, kf, i, f', a1, a2, a3, a4, a5, a6, -⟩ := p2.spec
  cases h1.symm.trans a1
  cases z1.symm.trans a2
  exact ⟨_, cf, kf, i, f', hN, a3, a4, by simp, rfl, a5, by simp [ei, a6, (State.fieldFound?_type a3 p1).2, p3]⟩
theorem newa (K : Cx p l e R s m meth c Z a0 W own nm bytes ml rt) (X : On p l e R s m args below meth c D Z n0 T A cells slots) {i1 t cap : Nat} {at' : ArrayType} {n : Int32} {dv : Value} (w1 : W[i1]? = some (.arrayClass (newarray.typeOf at'))) (hd : decode bytes pc = .ok (.newarray at', 2))
    (hb : cap * 8 ≤ 536870912) (hc : cells + 1 ≤ R.cells) (hs : slots + cap ≤ R.slots) (ht : t < 10) (hty : newarray.typeOf at' = aty t) (hdv : lf n0 dv = defaultValue (aty t)) {q : Nat × AH} (hq : h_anew A t cap n dv = some q)
    {pc' : Nat} (hp : pc + 2 = pc') (k : ∀ T', On p l e R s m args below meth c D Z n0 T' q.2 (cells + 1) (slots + cap) → Go p e below (T'.setTop (mkF m pc'  Ls (.ref (n0 + q.1) :: st))) G) : Go p e below (T.setTop (mkF m pc Ls (.int n :: st))) G := by
  subst hp
  unfold h_anew at hq
  split at hq
  · cases hq
  rename_i hn
  cases hq
  have hn1 : ¬ n < 0 := fun z => hn (Or.inl z)
  have hn2 : n.toNatClampNeg ≤ cap := Nat.le_of_not_lt fun z => hn (Or.inr z)
  have hn3 : n.toNatClampNeg < 2 ^ 31 := (back32 hn1).2
  obtain ⟨locs, X, N, RA⟩ := X
  have hZ := K.2.1
  have hcb : componentBytes (newarray.typeOf at') ≤ 8 := by cases at' <;> decide
  obtain ⟨cA, kA, comp, h1, h2, h3, X', stp⟩ := X.newarrayPrim K.1 (mvA hZ (wd K w1)) (g := mkF m pc Ls (.int n :: st)) rfl (dc K hd) rfl hn1 (Nat.le_trans (Nat.mul_le_mul hn2 hcb) hb) hc (by omega)
  rw [hZ.alike.findClass] at h1
  obtain ⟨kZ, z1, -⟩ := Vm.findClass_spec h1
  obtain ⟨k', z2, z3⟩ := hZ.alike.2.2 _ _ z1
  cases h2.symm.trans z2
  refine go stp ?_
  rw [RA.1]
  refine k _ ⟨locs, X'.more (Nat.le_refl _) (by omega), N, ?_⟩
  show Rep D Z n0 (T.heap.push _) _
  refine RA.push ⟨fun _ => ⟨_, ⟨by simp; rfl, ⟨by simp, kZ, z1, comp, by rw [← hty, ← h3, z3]⟩, by simp⟩, ?_, by simpa using hn3, fun v hv => ?_⟩, fun z => absurd ht (by omega)⟩
  · simp [hty, hdv]
  · rw [List.map_replicate] at hv
    rw [List.eq_of_mem_replicate hv, hdv]; cases aty t <;> rfl
/-! arrays -/
theorem h_alen' (K : Cx p l e R s m meth c Z a0 W own nm bytes ml rt) (X : On p l e R s m args below meth c D Z n0 T A cells slots) {t a : Nat} {n : Int32} (ht : t < 10) (hg : h_alen A t a = some n) (hd : decode bytes pc = .ok (.arraylength, 1))
    {pc' : Nat} (hp : pc + 1 = pc') (k : Go p e below (T.setTop (mkF m pc'  Ls (.int n :: st))) G) : Go p e below (T.setTop (mkF m pc Ls (.ref (n0 + a) :: st))) G := by
  subst hp
  obtain ⟨locs, X, N, RA⟩ := X
  unfold h_alen at hg
  split at hg
  · rename_i t' vs e
    split at hg
    · rename_i q; subst q
      cases hg
      obtain ⟨cl, h1, h2, -⟩ := RA.arr ht e
      have : cl.slots.size = vs.length := by rw [← Array.length_toList, h2]; simp
      rw [← this] at k
      exact go (X.arraylength K.1 h1.1 (State.isArrayOf_alike K.2.1.alike h1.2.1) (g := mkF m pc Ls (.ref (n0 + a) :: st)) rfl rfl (dc K hd)) k
    · cases hg
  · cases hg
theorem ald0 (K : Cx p l e R s m meth c Z a0 W own nm bytes ml rt) (X : On p l e R s m args below meth c D Z n0 T A cells slots) {a : Nat} {j : Int32} {v : Value} (hg : h_aget A 0 a j = some v) (hd : decode bytes pc = .ok (.iaload, 1))
    {pc' : Nat} (hp : pc + 1 = pc') (k : Go p e below (T.setTop (mkF m pc'  Ls (lf n0 v :: st))) G) : Go p e below (T.setTop (mkF m pc Ls (.int j :: .ref (n0 + a) :: st))) G := by
  subst hp
  obtain ⟨locs, X, N, RA⟩ := X
  obtain ⟨cl, h1, h2, h3⟩ := RA.at (by decide) hg
  exact go (X.iaload K.1 h1.1 (State.isArrayOf_alike K.2.1.alike h1.2.1) h1.2.2 h2 h3 (g := mkF m pc Ls (.int j :: .ref (n0 + a) :: st)) rfl rfl (dc K hd)) k
theorem ald1 (K : Cx p l e R s m meth c Z a0 W own nm bytes ml rt) (X : On p l e R s m args below meth c D Z n0 T A cells slots) {a : Nat} {j : Int32} {v : Value} (hg : h_aget A 1 a j = some v) (hd : decode bytes pc = .ok (.caload, 1))
    {pc' : Nat} (hp : pc + 1 = pc') (k : Go p e below (T.setTop (mkF m pc'  Ls (lf n0 v :: st))) G) : Go p e below (T.setTop (mkF m pc Ls (.int j :: .ref (n0 + a) :: st))) G := by
  subst hp
  obtain ⟨locs, X, N, RA⟩ := X
  obtain ⟨cl, h1, h2, h3⟩ := RA.at (by decide) hg
  exact go (X.caload K.1 h1.1 (State.isArrayOf_alike K.2.1.alike h1.2.1) h1.2.2 h2 h3 (g := mkF m pc Ls (.int j :: .ref (n0 + a) :: st)) rfl rfl (dc K hd)) k
theorem ald2 (K : Cx p l e R s m meth c Z a0 W own nm bytes ml rt) (X : On p l e R s m args below meth c D Z n0 T A cells slots) {a : Nat} {j : Int32} {v : Value} (hg : h_aget A 2 a j = some v) (hd : decode bytes pc = .ok (.baload, 1))
    {pc' : Nat} (hp : pc + 1 = pc') (k : Go p e below (T.setTop (mkF m pc'  Ls (lf n0 v :: st))) G) : Go p e below (T.setTop (mkF m pc Ls (.int j :: .ref (n0 + a) :: st))) G := by
  subst hp
  obtain ⟨locs, X, N, RA⟩ := X
  obtain ⟨cl, h1, h2, h3⟩ := RA.at (by decide) hg
  exact go (X.baloadBytes K.1 h1.1 (State.isArrayOf_alike K.2.1.alike h1.2.1) h1.2.2 h2 h3 (g := mkF m pc Ls (.int j :: .ref (n0 + a) :: st)) rfl rfl (dc K hd)) k
theorem ald3 (K : Cx p l e R s m meth c Z a0 W own nm bytes ml rt) (X : On p l e R s m args below meth c D Z n0 T A cells slots) {a : Nat} {j : Int32} {v : Value} (hg : h_aget A 3 a j = some v) (hd : decode bytes pc = .ok (.laload, 1))
    {pc' : Nat} (hp : pc + 1 = pc') (k : Go p e below (T.setTop (mkF m pc'  Ls (lf n0 v :: st))) G) : Go p e below (T.setTop (mkF m pc Ls (.int j :: .ref (n0 + a) :: st))) G := by
  subst hp
  obtain ⟨locs, X, N, RA⟩ := X
  obtain ⟨cl, h1, h2, h3⟩ := RA.at (by decide) hg
  exact go (X.laload K.1 h1.1 (State.isArrayOf_alike K.2.1.alike h1.2.1) h1.2.2 h2 h3 (g := mkF m pc Ls (.int j :: .ref (n0 + a) :: st)) rfl rfl (dc K hd)) k
theorem ald4 (K : Cx p l e R s m meth c Z a0 W own nm bytes ml rt) (X : On p l e R s m args below meth c D Z n0 T A cells slots) {a : Nat} {j : Int32} {v : Value} (hg : h_aget A 4 a j = some v) (hd : decode bytes pc = .ok (.baload, 1))
    {pc' : Nat} (hp : pc + 1 = pc') (k : Go p e below (T.setTop (mkF m pc'  Ls (lf n0 v :: st))) G) : Go p e below (T.setTop (mkF m pc Ls (.int j :: .ref (n0 + a) :: st))) G := by
  subst hp
  obtain ⟨locs, X, N, RA⟩ := X
  obtain ⟨cl, h1, h2, h3⟩ := RA.at (by decide) hg
  exact go (X.baloadBooleans K.1 h1.1 (State.isArrayOf_alike K.2.1.alike h1.2.1) h1.2.2 h2 h3 (g := mkF m pc Ls (.int j :: .ref (n0 + a) :: st)) rfl rfl (dc K hd)) k
theorem ld0 (K : Cx p l e R s m meth c Z a0 W own nm bytes ml rt) (X : On p l e R s m args below meth c D Z n0 T A cells slots) {a : Nat} {j : Int32} {v : Int32} (hg : asI (h_aget A 0 a j) = some v) (hd : decode bytes pc = .ok (.iaload, 1))
    {pc' : Nat} (hp : pc + 1 = pc') (k : Go p e below (T.setTop (mkF m pc' Ls (.int v :: st))) G) : Go p e below (T.setTop (mkF m pc Ls (.int j :: .ref (n0 + a) :: st))) G := ald0 K X (asI_s hg) hd hp k
theorem ld1 (K : Cx p l e R s m meth c Z a0 W own nm bytes ml rt) (X : On p l e R s m args below meth c D Z n0 T A cells slots) {a : Nat} {j : Int32} {v : Int32} (hg : asI (h_aget A 1 a j) = some v) (hd : decode bytes pc = .ok (.caload, 1))
    {pc' : Nat} (hp : pc + 1 = pc') (k : Go p e below (T.setTop (mkF m pc' Ls (.int v :: st))) G) : Go p e below (T.setTop (mkF m pc Ls (.int j :: .ref (n0 + a) :: st))) G := ald1 K X (asI_s hg) hd hp k
theorem ld2 (K : Cx p l e R s m meth c Z a0 W own nm bytes ml rt) (X : On p l e R s m args below meth c D Z n0 T A cells slots) {a : Nat} {j : Int32} {v : Int32} (hg : asI (h_aget A 2 a j) = some v) (hd : decode bytes pc = .ok (.baload, 1))
    {pc' : Nat} (hp : pc + 1 = pc') (k : Go p e below (T.setTop (mkF m pc' Ls (.int v :: st))) G) : Go p e below (T.setTop (mkF m pc Ls (.int j :: .ref (n0 + a) :: st))) G := ald2 K X (asI_s hg) hd hp k
theorem ld3 (K : Cx p l e R s m meth c Z a0 W own nm bytes ml rt) (X : On p l e R s m args below meth c D Z n0 T A cells slots) {a : Nat} {j : Int32} {v : Int64} (hg : asJ (h_aget A 3 a j) = some v) (hd : decode bytes pc = .ok (.laload, 1))
    {pc' : Nat} (hp : pc + 1 = pc') (k : Go p e below (T.setTop (mkF m pc' Ls (.long v :: st))) G) : Go p e below (T.setTop (mkF m pc Ls (.int j :: .ref (n0 + a) :: st))) G := ald3 K X (asJ_s hg) hd hp k
theorem ld4 (K : Cx p l e R s m meth c Z a0 W own nm bytes ml rt) (X : On p l e R s m args below meth c D Z n0 T A cells slots) {a : Nat} {j : Int32} {v : Int32} (hg : asI (h_aget A 4 a j) = some v) (hd : decode bytes pc = .ok (.baload, 1))
    {pc' : Nat} (hp : pc + 1 = pc') (k : Go p e below (T.setTop (mkF m pc' Ls (.int v :: st))) G) : Go p e below (T.setTop (mkF m pc Ls (.int j :: .ref (n0 + a) :: st))) G := ald4 K X (asI_s hg) hd hp k
theorem ast0 (K : Cx p l e R s m meth c Z a0 W own nm bytes ml rt) (X : On p l e R s m args below meth c D Z n0 T A cells slots) {a : Nat} {j x : Int32} (hp : h_aset A 0 a j (.int x) = some A') (hd : decode bytes pc = .ok (.iastore, 1))
    {pc' : Nat} (hp : pc + 1 = pc') (k : ∀ T', On p l e R s m args below meth c D Z n0 T' A' cells slots → Go p e below (T'.setTop (mkF m pc'  Ls st)) G) : Go p e below (T.setTop (mkF m pc Ls (.int x :: .int j :: .ref (n0 + a) :: st))) G := by
  subst hp
  obtain ⟨locs, X, N, RA⟩ := X
  obtain ⟨cl, h1, h2⟩ := RA.into (by decide) hp
  obtain ⟨T', h', X', e', W', stp⟩ := stI X K.1 K.2.1 rfl h1 h2 (g := mkF m pc Ls (.int x :: .int j :: .ref (n0 + a) :: st)) rfl rfl (dc K hd)
  exact go stp (k T' ⟨_, X', Fr.snoc X' N (Nat.le_add_right _ _), by rw [e']; exact RA.wrA (by decide) hp rfl W'⟩)
theorem ast1 (K : Cx p l e R s m meth c Z a0 W own nm bytes ml rt) (X : On p l e R s m args below meth c D Z n0 T A cells slots) {a : Nat} {j x : Int32} (hp : h_aset A 1 a j (.int (nar .char x)) = some A') (hd : decode bytes pc = .ok (.castore, 1))
    {pc' : Nat} (hp : pc + 1 = pc') (k : ∀ T', On p l e R s m args below meth c D Z n0 T' A' cells slots → Go p e below (T'.setTop (mkF m pc'  Ls st)) G) : Go p e below (T.setTop (mkF m pc Ls (.int x :: .int j :: .ref (n0 + a) :: st))) G := by
  subst hp
  obtain ⟨locs, X, N, RA⟩ := X
  obtain ⟨cl, h1, h2⟩ := RA.into (by decide) hp
  obtain ⟨T', h', X', e', W', stp⟩ := stC X K.1 K.2.1 rfl h1 h2 (g := mkF m pc Ls (.int x :: .int j :: .ref (n0 + a) :: st)) rfl rfl (dc K hd)
  exact go stp (k T' ⟨_, X', Fr.snoc X' N (Nat.le_add_right _ _), by rw [e']; exact RA.wrA (by decide) hp (fits_nar_char _) W'⟩)
theorem ast2 (K : Cx p l e R s m meth c Z a0 W own nm bytes ml rt) (X : On p l e R s m args below meth c D Z n0 T A cells slots) {a : Nat} {j x : Int32} (hp : h_aset A 2 a j (.int (nar .byte x)) = some A') (hd : decode bytes pc = .ok (.bastore, 1))
    {pc' : Nat} (hp : pc + 1 = pc') (k : ∀ T', On p l e R s m args below meth c D Z n0 T' A' cells slots → Go p e below (T'.setTop (mkF m pc'  Ls st)) G) : Go p e below (T.setTop (mkF m pc Ls (.int x :: .int j :: .ref (n0 + a) :: st))) G := by
  subst hp
  obtain ⟨locs, X, N, RA⟩ := X
  obtain ⟨cl, h1, h2⟩ := RA.into (by decide) hp
  obtain ⟨T', h', X', e', W', stp⟩ := stB X K.1 K.2.1 rfl h1 h2 (g := mkF m pc Ls (.int x :: .int j :: .ref (n0 + a) :: st)) rfl rfl (dc K hd)
  exact go stp (k T' ⟨_, X', Fr.snoc X' N (Nat.le_add_right _ _), by rw [e']; exact RA.wrA (by decide) hp (fits_nar_byte _) W'⟩)
theorem ast3 (K : Cx p l e R s m meth c Z a0 W own nm bytes ml rt) (X : On p l e R s m args below meth c D Z n0 T A cells slots) {a : Nat} {j : Int32} {x : Int64} (hp : h_aset A 3 a j (.long x) = some A') (hd : decode bytes pc = .ok (.lastore, 1))
    {pc' : Nat} (hp : pc + 1 = pc') (k : ∀ T', On p l e R s m args below meth c D Z n0 T' A' cells slots → Go p e below (T'.setTop (mkF m pc'  Ls st)) G) : Go p e below (T.setTop (mkF m pc Ls (.long x :: .int j :: .ref (n0 + a) :: st))) G := by
  subst hp
  obtain ⟨locs, X, N, RA⟩ := X
  obtain ⟨cl, h1, h2⟩ := RA.into (by decide) hp
  obtain ⟨T', h', X', e', W', stp⟩ := stJ X K.1 K.2.1 rfl h1 h2 (g := mkF m pc Ls (.long x :: .int j :: .ref (n0 + a) :: st)) rfl rfl (dc K hd)
  exact go stp (k T' ⟨_, X', Fr.snoc X' N (Nat.le_add_right _ _), by rw [e']; exact RA.wrA (by decide) hp rfl W'⟩)
theorem ast4 (K : Cx p l e R s m meth c Z a0 W own nm bytes ml rt) (X : On p l e R s m args below meth c D Z n0 T A cells slots) {a : Nat} {j x : Int32} (hp : h_aset A 4 a j (.int (nar .boolean x)) = some A') (hd : decode bytes pc = .ok (.bastore, 1))
    {pc' : Nat} (hp : pc + 1 = pc') (k : ∀ T', On p l e R s m args below meth c D Z n0 T' A' cells slots → Go p e below (T'.setTop (mkF m pc'  Ls st)) G) : Go p e below (T.setTop (mkF m pc Ls (.int x :: .int j :: .ref (n0 + a) :: st))) G := by
  subst hp
  obtain ⟨locs, X, N, RA⟩ := X
  obtain ⟨cl, h1, h2⟩ := RA.into (by decide) hp
  obtain ⟨T', h', X', e', W', stp⟩ := stZ X K.1 K.2.1 rfl h1 h2 (g := mkF m pc Ls (.int x :: .int j :: .ref (n0 + a) :: st)) rfl rfl (dc K hd)
  exact go stp (k T' ⟨_, X', Fr.snoc X' N (Nat.le_add_right _ _), by rw [e']; exact RA.wrA (by decide) hp (fits_nar_bool _) W'⟩)
/-! calls -/
theorem obj (K : Cx p l e R s m meth c Z a0 W own nm bytes ml rt) (X : On p l e R s m args below meth c D Z n0 T A cells slots) {i1 i2 i3 idx w : Nat} {a : Addr} (w1 : W[i1]? = some (.methodLink own idx Lib.objectInit)) (w2 : W[i2]? = some (.instanceMethod Lib.objectInit)) (w3 : W[i3]? = some (.code Lib.objectInit ⟨#[0xb1]⟩ 1 none))
    (hd : decode bytes pc = .ok (.invokespecial idx, 3)) (hz : Ls.size = ml) (hf : 1 ≤ R.frames) (hw : (st.map fun v => v.category).sum ≤ w) (hl : w + 12 ≤ R.locals)
    {pc' : Nat} (hp : pc + 3 = pc') (k : ∀ T', On p l e R s m args below meth c D Z n0 T' A cells slots → Go p e below (T'.setTop (mkF m pc'  Ls st)) G) : Go p e below (T.setTop (mkF m pc Ls (.ref a :: st))) G := by
  subst hp
  obtain ⟨locs, X, N, RA⟩ := X
  obtain ⟨T', X', e', stp⟩ := initO X K.1 K.2.1 K.2.2.1 (wd K w1) (wd K w2) (wd K w3) rfl (g := mkF m pc Ls (.ref a :: st)) rfl (hz.trans K.2.2.2.2.1.symm) rfl (dc K hd) hf (W := w) (by simpa [JFrame.monitorRoom] using hw) hl
  exact go stp (k T' ⟨locs, X', N, by rw [e']; exact RA⟩)
theorem calls (K : Cx p l e R s m meth c Z a0 W own nm bytes ml rt) (X : On p l e R s m args below meth c D Z n0 T A cells slots) {i1 i2 i3 i4 idx w : Nat} {y : MethodName} {by' : ByteArray} {ml' : Nat} {rt' : Option FieldType} {rm : Room} {as : List Value} {r : Option Value} {S : List Value} {ps : List FieldType}
    (w1 : W[i1]? = some (.methodLink own idx y)) (w2 : W[i2]? = some (.static y)) (w3 : W[i3]? = some (.initialized y.cls)) (w4 : W[i4]? = some (.code y by' ml' rt')) (hy : y.cls ≠ "java/lang/invoke/MethodHandle" ∧ y.cls ≠ "java/lang/invoke/VarHandle")
    (M : Met l D Z n0 y by' ml' rt' rm as A r A') (hpd : parseMethodDescriptor y.desc = some ⟨ps, rt'⟩) (hlen : as.length = ps.length) (hd : decode bytes pc = .ok (.invokestatic idx, 3)) (hz : Ls.size = ml) (hS : S = as.reverse ++ st)
    (hf : rm.frames + 1 ≤ R.frames) (hw : (st.map fun v => v.category).sum ≤ w) (hl : w + (ml' + 11) + rm.locals ≤ R.locals) (hc : cells + rm.cells ≤ R.cells) (hs : slots + rm.slots ≤ R.slots)
    {pc' kc ks : Nat} {S' : List Value} (ec : cells + rm.cells = kc) (es : slots + rm.slots = ks) (hS' : r.toList ++ st = S') (hp : pc + 3 = pc') (k : ∀ T', On p l e R s m args below meth c D Z n0 T' A' kc ks → Go p e below (T'.setTop (mkF m pc' Ls S')) G) : Go p e below (T.setTop (mkF m pc Ls S)) G := by
  subst hp ec es hS'
  obtain ⟨locs, X, N, RA⟩ := X
  obtain ⟨v, vm, ⟨T', L', k', n'⟩, -, X', ⟨Lc, hQ, q1, q2, q3⟩, stp⟩ := Jvm.LawKit.callS X K.1 K.2.2.1 (mvT K.2.1 (wd K w1)) (mvT K.2.1 (wd K w2)) (mvT K.2.1 (wd K w3)) (mvT K.2.1 (wd K w4)) hy
    (backOf (W := w) (M [] T.heap RA) K.2.1 (wd K w4) (wd K w3) hf hl) (g := mkF m pc Ls S) rfl (hz.trans K.2.2.2.2.1.symm) (argsL := as) (rest := st) (lenOf hpd hlen) hS (by simpa [JFrame.monitorRoom] using hw) (dc K hd) (fun _ _ => ⟨rfl, rfl, hc, hs⟩)
  dsimp only [Pt.U, Pt.locs, Pt.cells, Pt.slots] at X' q1 q2 q3 hQ stp
  subst q1 q2 q3
  obtain ⟨rfl, N', RA'⟩ := hQ
  exact go stp (k T' ⟨_, X', Fr.app N N', RA'⟩)
theorem calli (K : Cx p l e R s m meth c Z a0 W own nm bytes ml rt) (X : On p l e R s m args below meth c D Z n0 T A cells slots) {i1 i2 i3 i4 idx w : Nat} {y : MethodName} {by' : ByteArray} {ml' : Nat} {rm : Room} {a : Addr} {as : List Value} {S : List Value} {ps : List FieldType}
    (w1 : W[i1]? = some (.methodLink own idx y)) (w2 : W[i2]? = some (.instanceMethod y)) (w3 : W[i3]? = some (.initialized y.cls)) (w4 : W[i4]? = some (.code y by' ml' none)) (hy1 : y.name = "<init>") (hy : y.cls ≠ "java/lang/invoke/MethodHandle" ∧ y.cls ≠ "java/lang/invoke/VarHandle")
    (M : Met l D Z n0 y by' ml' none rm (.ref a :: as) A none A') (hpd : parseMethodDescriptor y.desc = some ⟨ps, none⟩) (hlen : as.length = ps.length) (hd : decode bytes pc = .ok (.invokespecial idx, 3)) (hz : Ls.size = ml) (hS : S = as.reverse ++ .ref a :: st)
    (hf : rm.frames + 1 ≤ R.frames) (hw : (st.map fun v => v.category).sum ≤ w) (hl : w + (ml' + 11) + rm.locals ≤ R.locals) (hc : cells + rm.cells ≤ R.cells) (hs : slots + rm.slots ≤ R.slots)
    {pc' kc ks : Nat} (ec : cells + rm.cells = kc) (es : slots + rm.slots = ks) (hp : pc + 3 = pc') (k : ∀ T', On p l e R s m args below meth c D Z n0 T' A' kc ks → Go p e below (T'.setTop (mkF m pc'  Ls st)) G) : Go p e below (T.setTop (mkF m pc Ls S)) G := by
  subst hp ec es
  obtain ⟨locs, X, N, RA⟩ := X
  obtain ⟨v, vm, ⟨T', L', k', n'⟩, -, X', ⟨Lc, hQ, q1, q2, q3⟩, stp⟩ := X.specialBack K.1 hy1 K.2.2.1 (mvT K.2.1 (wd K w1)) (mvT K.2.1 (wd K w2)) (mvT K.2.1 (wd K w4)) hy
    (backOf (W := w) (M [] T.heap RA) K.2.1 (wd K w4) (wd K w3) hf hl) (g := mkF m pc Ls S) rfl (hz.trans K.2.2.2.2.1.symm) (Steps.refl _) (a := a) (argsL := as) (rest := st) (lenOf hpd hlen) hS (by simpa [JFrame.monitorRoom] using hw) (dc K hd) (fun _ _ => ⟨rfl, rfl, hc, hs⟩)
  dsimp only [Pt.U, Pt.locs, Pt.cells, Pt.slots] at X' q1 q2 q3 hQ stp
  subst q1 q2 q3
  obtain ⟨rfl, N', RA'⟩ := hQ
  exact go (fun _ q => stp.trans q) (k T' ⟨_, X', Fr.app N N', RA'⟩)
theorem callv (K : Cx p l e R s m meth c Z a0 W own nm bytes ml rt) (X : On p l e R s m args below meth c D Z n0 T A cells slots) {i1 i2 i3 i4 i5 i6 idx w t a : Nat} {u : Unit} {y : MethodName} {by' : ByteArray} {ml' : Nat} {rt' : Option FieldType} {rm : Room} {as : List Value} {r : Option Value} {S : List Value} {ps : List FieldType}
    (w1 : W[i1]? = some (.methodLink own idx y)) (w2 : W[i2]? = some (.declares y)) (w5 : W[i5]? = some (.selects (D t).1 y y)) (w6 : W[i6]? = some (.instanceMethod y)) (w3 : W[i3]? = some (.initialized y.cls)) (w4 : W[i4]? = some (.code y by' ml' rt')) (hy : y.cls ≠ "java/lang/invoke/MethodHandle" ∧ y.cls ≠ "java/lang/invoke/VarHandle")
    (ht : 10 ≤ t) (hA : h_isA A t a = some u) (M : Met l D Z n0 y by' ml' rt' rm (.ref (n0 + a) :: as) A r A') (hpd : parseMethodDescriptor y.desc = some ⟨ps, rt'⟩) (hlen : as.length = ps.length) (hd : decode bytes pc = .ok (.invokevirtual idx, 3)) (hz : Ls.size = ml) (hS : S = as.reverse ++ .ref (n0 + a) :: st)
    (hf : rm.frames + 1 ≤ R.frames) (hw : (st.map fun v => v.category).sum ≤ w) (hl : w + (ml' + 11) + rm.locals ≤ R.locals) (hc : cells + rm.cells ≤ R.cells) (hs : slots + rm.slots ≤ R.slots)
    {pc' kc ks : Nat} {S' : List Value} (ec : cells + rm.cells = kc) (es : slots + rm.slots = ks) (hS' : r.toList ++ st = S') (hp : pc + 3 = pc') (k : ∀ T', On p l e R s m args below meth c D Z n0 T' A' kc ks → Go p e below (T'.setTop (mkF m pc' Ls S')) G) : Go p e below (T.setTop (mkF m pc Ls S)) G := by
  subst hp ec es hS'
  obtain ⟨locs, X, N, RA⟩ := X
  obtain ⟨vs, hA⟩ := isA_s hA
  obtain ⟨cq, kq, q1, q2, q3⟩ := isOf K.2.1 rfl (RA.exa ht hA)
  obtain ⟨v, vm, ⟨T', L', k', n'⟩, -, X', ⟨Lc, hQ, q1, q2, q3⟩, stp⟩ := X.virtualBack K.1 (y := y) (z := y) K.2.2.1 (mvT K.2.1 (wd K w1)) (mvT K.2.1 (wd K w2)) (notFace_of_selects (args := #[]) (mvT K.2.1 (wd K w5))) (mvT K.2.1 (wd K w5)) (mvT K.2.1 (wd K w6)) hy
    (backOf (W := w) (M [] T.heap RA) K.2.1 (wd K w4) (wd K w3) hf hl) q1 q3 (g := mkF m pc Ls S) rfl (hz.trans K.2.2.2.2.1.symm) (Steps.refl _) (argsL := as) (rest := st) (lenOf hpd hlen) hS (by simpa [JFrame.monitorRoom] using hw) (dc K hd) (fun _ _ => ⟨rfl, rfl, hc, hs⟩)
  dsimp only [Pt.U, Pt.locs, Pt.cells, Pt.slots] at X' q1 q2 q3 hQ stp
  subst q1 q2 q3
  obtain ⟨rfl, N', RA'⟩ := hQ
  exact go (fun _ q => stp.trans q) (k T' ⟨_, X', Fr.app N N', RA'⟩)
theorem callp (K : Cx p l e R s m meth c Z a0 W own nm bytes ml rt) (X : On p l e R s m args below meth c D Z n0 T A cells slots) {i1 i2 i3 i4 i5 i6 idx w t a kk : Nat} {u : Unit} {y : MethodName} {by' : ByteArray} {ml' : Nat} {rt' : Option FieldType} {rm : Room} {as : List Value} {r : Option Value} {S : List Value} {ps : List FieldType}
    (w1 : W[i1]? = some (.methodLink own idx y)) (w2 : W[i2]? = some (.privateMethod y)) (w5 : W[i5]? = some (.instantiable y.cls kk)) (w6 : W[i6]? = some (.instanceMethod y)) (w3 : W[i3]? = some (.initialized y.cls)) (w4 : W[i4]? = some (.code y by' ml' rt')) (hy : y.cls ≠ "java/lang/invoke/MethodHandle" ∧ y.cls ≠ "java/lang/invoke/VarHandle")
    (ht : 10 ≤ t) (hA : h_isA A t a = some u) (M : Met l D Z n0 y by' ml' rt' rm (.ref (n0 + a) :: as) A r A') (hpd : parseMethodDescriptor y.desc = some ⟨ps, rt'⟩) (hlen : as.length = ps.length) (hd : decode bytes pc = .ok (.invokevirtual idx, 3)) (hz : Ls.size = ml) (hS : S = as.reverse ++ .ref (n0 + a) :: st)
    (hf : rm.frames + 1 ≤ R.frames) (hw : (st.map fun v => v.category).sum ≤ w) (hl : w + (ml' + 11) + rm.locals ≤ R.locals) (hc : cells + rm.cells ≤ R.cells) (hs : slots + rm.slots ≤ R.slots)
    {pc' kc ks : Nat} {S' : List Value} (ec : cells + rm.cells = kc) (es : slots + rm.slots = ks) (hS' : r.toList ++ st = S') (hp : pc + 3 = pc') (k : ∀ T', On p l e R s m args below meth c D Z n0 T' A' kc ks → Go p e below (T'.setTop (mkF m pc' Ls S')) G) : Go p e below (T.setTop (mkF m pc Ls S)) G := by
  subst hp ec es hS'
  obtain ⟨locs, X, N, RA⟩ := X
  obtain ⟨vs, hA⟩ := isA_s hA
  obtain ⟨cq, q1, q2⟩ := (RA.exa ht hA).cell
  have wi : (Jvm.Cond.instantiable y.cls kk).before #[] s = true := mvT K.2.1 (wd K w5)
  obtain ⟨c0, k0, i1, i2, i3, i4, -⟩ := Cond.instantiable_spec wi
  have hni : k0.isInterface = false := (Bool.or_eq_false_iff.mp i4).1
  have hpr : s.PrivateAt y := Cond.privateMethod_at (mvP K.2.1 (wd K w2) (args := #[]))
  have hin : (Jvm.Cond.instanceMethod y).before args s = true := mvT K.2.1 (wd K w6)
  obtain ⟨v, vm, ⟨T', L', k', n'⟩, -, X', ⟨Lc, hQ, q1, q2, q3⟩, stp⟩ := X.privateBack K.1 (y := y) K.2.2.1 (mvT K.2.1 (wd K w1)) hin (selects_self_of_private i1 i2 hni hpr hin hy) hpr (mvT K.2.1 (wd K w4)) hy
    (backOf (W := w) (M [] T.heap RA) K.2.1 (wd K w4) (wd K w3) hf hl) (g := mkF m pc Ls S) rfl (hz.trans K.2.2.2.2.1.symm) (Steps.refl _) (a := n0 + a) q1 q2 (argsL := as) (rest := st) (lenOf hpd hlen) hS (by simpa [JFrame.monitorRoom] using hw) (dc K hd) (fun _ _ => ⟨rfl, rfl, hc, hs⟩)
  dsimp only [Pt.U, Pt.locs, Pt.cells, Pt.slots] at X' q1 q2 q3 hQ stp
  subst q1 q2 q3
  obtain ⟨rfl, N', RA'⟩ := hQ
  exact go (fun _ q => stp.trans q) (k T' ⟨_, X', Fr.app N N', RA'⟩)
/-! a body by its blocks -/
theorem met {y : MethodName} {as : List Value} {r : Option Value} {L0 : Array Slot} (hp : plainFor y = true) (hw : ∀ d ∈ W, d.before a0 Z = true) (hn : y.cls = own) (hnn : y.name = nm) (hef : ∀ m, entryFrame m as.toArray ml = mkF m 0 L0 [])
    (hb : ∀ (p : Program) (e : Env) (s : State) (m : MethodId) (below : List Frame) (meth : Method) (c : Code) (T : State), Cx p l e R s m meth c Z a0 W own nm bytes ml rt → On p l e R s m as.toArray below meth c D Z n0 T A 0 0 → Go p e below (T.setTop (mkF m 0 L0 [])) (Fini D Z n0 s R r A')) :
    Met l D Z n0 y bytes ml rt R as A r A' := by
  intro ws h0 RA
  refine MetFree.of_bodySF hp hisR ?_
  intro p e s m args below meth c s₁ Bd hml0 hP hK
  obtain ⟨rfl, hZ, hh⟩ := hP
  have hown : s.vm.findClass own = some m.cls := hn ▸ findClass_of_methodNamed Bd.named
  have hnm := (name_of_methodNamed Bd.named Bd.method).1
  have X0 : Stand p l e R s m as.toArray below meth c s₁ [] 0 0 := Stand.of_body Bd
  have e0 : s₁.heap = h0 := by rw [← hh, Bd.state]; rfl
  have := hb p e s m below meth c s₁ ⟨Bd.exec, hZ, hown, Bd.bytes, hml0, Bd.returns, Bd.notSynchronized, hnm.trans hnn, hw⟩ ⟨[], X0, Fr.nil n0, by rw [e0]; exact RA⟩
  obtain ⟨t, o, h1, h2, h3, h4⟩ := this
  exact ⟨t, o, castTop (hef m) h1, h2, h3, h4⟩
end Walk
end Jvm.OwnKit
namespace Jvm.OwnKit
open Sem ClassFile Op Lib Jvm.Stand Jvm.Free Jvm.LawKit Jvm.RoadKit
section Instr
variable {p : Program} {l : Launch} {e : Env} {R : Room} {s : State} {m : MethodId} {args : Array Value} {below : List Frame} {meth : Method} {c : Code} {Z : State} {a0 : Array Value} {W : List Jvm.Cond} {own nm : String} {bytes : ByteArray} {ml : Nat} {rt : Option FieldType} {D : Dic} {n0 : Nat} {T : State} {A A' : AH} {cells slots : Nat} {G : Outcome → State → Prop} {pc : Nat} {Ls : Array Slot} {st : List Value}
theorem i_iadd (K : Cx p l e R s m meth c Z a0 W own nm bytes ml rt) (X : On p l e R s m args below meth c D Z n0 T A cells slots) {x y : Int32} {pc' : Nat} (hd : decode bytes pc = .ok (.iadd, 1)) (hp : pc + 1 = pc')
    (k : Go p e below (T.setTop (mkF m pc' Ls (.int (x + y) :: st))) G) : Go p e below (T.setTop (mkF m pc Ls (.int y :: .int x :: st))) G := by
  subst hp; exact go (fun _ => XS.iadd X.here K.1 (g := mkF m pc Ls (.int y :: .int x :: st)) rfl (dc K hd) rfl) k
theorem i_isub (K : Cx p l e R s m meth c Z a0 W own nm bytes ml rt) (X : On p l e R s m args below meth c D Z n0 T A cells slots) {x y : Int32} {pc' : Nat} (hd : decode bytes pc = .ok (.isub, 1)) (hp : pc + 1 = pc')
    (k : Go p e below (T.setTop (mkF m pc' Ls (.int (x - y) :: st))) G) : Go p e below (T.setTop (mkF m pc Ls (.int y :: .int x :: st))) G := by
  subst hp; exact go (fun _ => XS.isub X.here K.1 (g := mkF m pc Ls (.int y :: .int x :: st)) rfl (dc K hd) rfl) k
theorem i_imul (K : Cx p l e R s m meth c Z a0 W own nm bytes ml rt) (X : On p l e R s m args below meth c D Z n0 T A cells slots) {x y : Int32} {pc' : Nat} (hd : decode bytes pc = .ok (.imul, 1)) (hp : pc + 1 = pc')
    (k : Go p e below (T.setTop (mkF m pc' Ls (.int (x * y) :: st))) G) : Go p e below (T.setTop (mkF m pc Ls (.int y :: .int x :: st))) G := by
  subst hp; exact go (fun _ => XS.imul X.here K.1 (g := mkF m pc Ls (.int y :: .int x :: st)) rfl (dc K hd) rfl) k
theorem i_iand (K : Cx p l e R s m meth c Z a0 W own nm bytes ml rt) (X : On p l e R s m args below meth c D Z n0 T A cells slots) {x y : Int32} {pc' : Nat} (hd : decode bytes pc = .ok (.iand, 1)) (hp : pc + 1 = pc')
    (k : Go p e below (T.setTop (mkF m pc' Ls (.int (x &&& y) :: st))) G) : Go p e below (T.setTop (mkF m pc Ls (.int y :: .int x :: st))) G := by
  subst hp; exact go (fun _ => XS.iand X.here K.1 (g := mkF m pc Ls (.int y :: .int x :: st)) rfl (dc K hd) rfl) k
theorem i_ior (K : Cx p l e R s m meth c Z a0 W own nm bytes ml rt) (X : On p l e R s m args below meth c D Z n0 T A cells slots) {x y : Int32} {pc' : Nat} (hd : decode bytes pc = .ok (.ior, 1)) (hp : pc + 1 = pc')
    (k : Go p e below (T.setTop (mkF m pc' Ls (.int (x ||| y) :: st))) G) : Go p e below (T.setTop (mkF m pc Ls (.int y :: .int x :: st))) G := by
  subst hp; exact go (fun _ => XS.ior X.here K.1 (g := mkF m pc Ls (.int y :: .int x :: st)) rfl (dc K hd) rfl) k
theorem i_ixor (K : Cx p l e R s m meth c Z a0 W own nm bytes ml rt) (X : On p l e R s m args below meth c D Z n0 T A cells slots) {x y : Int32} {pc' : Nat} (hd : decode bytes pc = .ok (.ixor, 1)) (hp : pc + 1 = pc')
    (k : Go p e below (T.setTop (mkF m pc' Ls (.int (x ^^^ y) :: st))) G) : Go p e below (T.setTop (mkF m pc Ls (.int y :: .int x :: st))) G := by
  subst hp; exact go (fun _ => XS.ixor X.here K.1 (g := mkF m pc Ls (.int y :: .int x :: st)) rfl (dc K hd) rfl) k
theorem i_ishl (K : Cx p l e R s m meth c Z a0 W own nm bytes ml rt) (X : On p l e R s m args below meth c D Z n0 T A cells slots) {x y : Int32} {pc' : Nat} (hd : decode bytes pc = .ok (.ishl, 1)) (hp : pc + 1 = pc')
    (k : Go p e below (T.setTop (mkF m pc' Ls (.int (x <<< (y &&& 31)) :: st))) G) : Go p e below (T.setTop (mkF m pc Ls (.int y :: .int x :: st))) G := by
  subst hp; exact go (fun _ => XS.ishl X.here K.1 (g := mkF m pc Ls (.int y :: .int x :: st)) rfl (dc K hd) rfl) k
theorem i_ishr (K : Cx p l e R s m meth c Z a0 W own nm bytes ml rt) (X : On p l e R s m args below meth c D Z n0 T A cells slots) {x y : Int32} {pc' : Nat} (hd : decode bytes pc = .ok (.ishr, 1)) (hp : pc + 1 = pc')
    (k : Go p e below (T.setTop (mkF m pc' Ls (.int (x >>> (y &&& 31)) :: st))) G) : Go p e below (T.setTop (mkF m pc Ls (.int y :: .int x :: st))) G := by
  subst hp; exact go (fun _ => XS.ishr X.here K.1 (g := mkF m pc Ls (.int y :: .int x :: st)) rfl (dc K hd) rfl) k
theorem i_iushr (K : Cx p l e R s m meth c Z a0 W own nm bytes ml rt) (X : On p l e R s m args below meth c D Z n0 T A cells slots) {x y : Int32} {pc' : Nat} (hd : decode bytes pc = .ok (.iushr, 1)) (hp : pc + 1 = pc')
    (k : Go p e below (T.setTop (mkF m pc' Ls (.int ((x.toUInt32 >>> (y &&& 31).toUInt32).toInt32) :: st))) G) : Go p e below (T.setTop (mkF m pc Ls (.int y :: .int x :: st))) G := by
  subst hp; exact go (fun _ => XS.iushr X.here K.1 (g := mkF m pc Ls (.int y :: .int x :: st)) rfl (dc K hd) rfl) k
theorem i_idiv (K : Cx p l e R s m meth c Z a0 W own nm bytes ml rt) (X : On p l e R s m args below meth c D Z n0 T A cells slots) {x y : Int32} {pc' : Nat} (hd : decode bytes pc = .ok (.idiv, 1)) (hp : pc + 1 = pc') (hy : y ≠ 0)
    (k : Go p e below (T.setTop (mkF m pc' Ls (.int (x / y) :: st))) G) : Go p e below (T.setTop (mkF m pc Ls (.int y :: .int x :: st))) G := by
  subst hp; exact go (fun _ => XS.idiv X.here K.1 (g := mkF m pc Ls (.int y :: .int x :: st)) rfl (dc K hd) rfl hy) k
theorem i_irem (K : Cx p l e R s m meth c Z a0 W own nm bytes ml rt) (X : On p l e R s m args below meth c D Z n0 T A cells slots) {x y : Int32} {pc' : Nat} (hd : decode bytes pc = .ok (.irem, 1)) (hp : pc + 1 = pc') (hy : y ≠ 0)
    (k : Go p e below (T.setTop (mkF m pc' Ls (.int (x % y) :: st))) G) : Go p e below (T.setTop (mkF m pc Ls (.int y :: .int x :: st))) G := by
  subst hp; rw [← irem_eq_mod] at k; exact go (fun _ => XS.irem X.here K.1 (g := mkF m pc Ls (.int y :: .int x :: st)) rfl (dc K hd) rfl hy) k
theorem i_ladd (K : Cx p l e R s m meth c Z a0 W own nm bytes ml rt) (X : On p l e R s m args below meth c D Z n0 T A cells slots) {x y : Int64} {pc' : Nat} (hd : decode bytes pc = .ok (.ladd, 1)) (hp : pc + 1 = pc')
    (k : Go p e below (T.setTop (mkF m pc' Ls (.long (x + y) :: st))) G) : Go p e below (T.setTop (mkF m pc Ls (.long y :: .long x :: st))) G := by
  subst hp; exact go (fun _ => XS.ladd X.here K.1 (g := mkF m pc Ls (.long y :: .long x :: st)) rfl (dc K hd) rfl) k
theorem i_lsub (K : Cx p l e R s m meth c Z a0 W own nm bytes ml rt) (X : On p l e R s m args below meth c D Z n0 T A cells slots) {x y : Int64} {pc' : Nat} (hd : decode bytes pc = .ok (.lsub, 1)) (hp : pc + 1 = pc')
    (k : Go p e below (T.setTop (mkF m pc' Ls (.long (x - y) :: st))) G) : Go p e below (T.setTop (mkF m pc Ls (.long y :: .long x :: st))) G := by
  subst hp; exact go (fun _ => XS.lsub X.here K.1 (g := mkF m pc Ls (.long y :: .long x :: st)) rfl (dc K hd) rfl) k
theorem i_lmul (K : Cx p l e R s m meth c Z a0 W own nm bytes ml rt) (X : On p l e R s m args below meth c D Z n0 T A cells slots) {x y : Int64} {pc' : Nat} (hd : decode bytes pc = .ok (.lmul, 1)) (hp : pc + 1 = pc')
    (k : Go p e below (T.setTop (mkF m pc' Ls (.long (x * y) :: st))) G) : Go p e below (T.setTop (mkF m pc Ls (.long y :: .long x :: st))) G := by
  subst hp; exact go (fun _ => XS.lmul X.here K.1 (g := mkF m pc Ls (.long y :: .long x :: st)) rfl (dc K hd) rfl) k
theorem i_land (K : Cx p l e R s m meth c Z a0 W own nm bytes ml rt) (X : On p l e R s m args below meth c D Z n0 T A cells slots) {x y : Int64} {pc' : Nat} (hd : decode bytes pc = .ok (.land, 1)) (hp : pc + 1 = pc')
    (k : Go p e below (T.setTop (mkF m pc' Ls (.long (x &&& y) :: st))) G) : Go p e below (T.setTop (mkF m pc Ls (.long y :: .long x :: st))) G := by
  subst hp; exact go (fun _ => XS.land X.here K.1 (g := mkF m pc Ls (.long y :: .long x :: st)) rfl (dc K hd) rfl) k
theorem i_lor (K : Cx p l e R s m meth c Z a0 W own nm bytes ml rt) (X : On p l e R s m args below meth c D Z n0 T A cells slots) {x y : Int64} {pc' : Nat} (hd : decode bytes pc = .ok (.lor, 1)) (hp : pc + 1 = pc')
    (k : Go p e below (T.setTop (mkF m pc' Ls (.long (x ||| y) :: st))) G) : Go p e below (T.setTop (mkF m pc Ls (.long y :: .long x :: st))) G := by
  subst hp; exact go (fun _ => XS.lor X.here K.1 (g := mkF m pc Ls (.long y :: .long x :: st)) rfl (dc K hd) rfl) k
theorem i_lxor (K : Cx p l e R s m meth c Z a0 W own nm bytes ml rt) (X : On p l e R s m args below meth c D Z n0 T A cells slots) {x y : Int64} {pc' : Nat} (hd : decode bytes pc = .ok (.lxor, 1)) (hp : pc + 1 = pc')
    (k : Go p e below (T.setTop (mkF m pc' Ls (.long (x ^^^ y) :: st))) G) : Go p e below (T.setTop (mkF m pc Ls (.long y :: .long x :: st))) G := by
  subst hp; exact go (fun _ => XS.lxor X.here K.1 (g := mkF m pc Ls (.long y :: .long x :: st)) rfl (dc K hd) rfl) k
theorem i_lshl (K : Cx p l e R s m meth c Z a0 W own nm bytes ml rt) (X : On p l e R s m args below meth c D Z n0 T A cells slots) {x : Int64} {y : Int32} {pc' : Nat} (hd : decode bytes pc = .ok (.lshl, 1)) (hp : pc + 1 = pc')
    (k : Go p e below (T.setTop (mkF m pc' Ls (.long (x <<< (y &&& 0x3f).toInt64) :: st))) G) : Go p e below (T.setTop (mkF m pc Ls (.int y :: .long x :: st))) G := by
  subst hp; exact go (fun _ => XS.lshl X.here K.1 (g := mkF m pc Ls (.int y :: .long x :: st)) rfl (dc K hd) rfl) k
theorem i_lshr (K : Cx p l e R s m meth c Z a0 W own nm bytes ml rt) (X : On p l e R s m args below meth c D Z n0 T A cells slots) {x : Int64} {y : Int32} {pc' : Nat} (hd : decode bytes pc = .ok (.lshr, 1)) (hp : pc + 1 = pc')
    (k : Go p e below (T.setTop (mkF m pc' Ls (.long (x >>> (y &&& 0x3f).toInt64) :: st))) G) : Go p e below (T.setTop (mkF m pc Ls (.int y :: .long x :: st))) G := by
  subst hp; exact go (fun _ => XS.lshr X.here K.1 (g := mkF m pc Ls (.int y :: .long x :: st)) rfl (dc K hd) rfl) k
theorem i_lushr (K : Cx p l e R s m meth c Z a0 W own nm bytes ml rt) (X : On p l e R s m args below meth c D Z n0 T A cells slots) {x : Int64} {y : Int32} {pc' : Nat} (hd : decode bytes pc = .ok (.lushr, 1)) (hp : pc + 1 = pc')
    (k : Go p e below (T.setTop (mkF m pc' Ls (.long ((x.toUInt64 >>> (y &&& 0x3f).toInt64.toUInt64).toInt64) :: st))) G) : Go p e below (T.setTop (mkF m pc Ls (.int y :: .long x :: st))) G := by
  subst hp; exact go (fun _ => XS.lushr X.here K.1 (g := mkF m pc Ls (.int y :: .long x :: st)) rfl (dc K hd) rfl) k
theorem i_ldiv (K : Cx p l e R s m meth c Z a0 W own nm bytes ml rt) (X : On p l e R s m args below meth c D Z n0 T A cells slots) {x y : Int64} {pc' : Nat} (hd : decode bytes pc = .ok (.ldiv, 1)) (hp : pc + 1 = pc') (hy : y ≠ 0)
    (k : Go p e below (T.setTop (mkF m pc' Ls (.long (x / y) :: st))) G) : Go p e below (T.setTop (mkF m pc Ls (.long y :: .long x :: st))) G := by
  subst hp; exact go (fun _ => XS.ldiv X.here K.1 (g := mkF m pc Ls (.long y :: .long x :: st)) rfl (dc K hd) rfl hy) k
theorem i_lrem (K : Cx p l e R s m meth c Z a0 W own nm bytes ml rt) (X : On p l e R s m args below meth c D Z n0 T A cells slots) {x y : Int64} {pc' : Nat} (hd : decode bytes pc = .ok (.lrem, 1)) (hp : pc + 1 = pc') (hy : y ≠ 0)
    (k : Go p e below (T.setTop (mkF m pc' Ls (.long (x - (x / y) * y) :: st))) G) : Go p e below (T.setTop (mkF m pc Ls (.long y :: .long x :: st))) G := by
  subst hp; exact go (fun _ => XS.lrem X.here K.1 (g := mkF m pc Ls (.long y :: .long x :: st)) rfl (dc K hd) rfl hy) k
theorem i_ineg (K : Cx p l e R s m meth c Z a0 W own nm bytes ml rt) (X : On p l e R s m args below meth c D Z n0 T A cells slots) {x : Int32} {pc' : Nat} (hd : decode bytes pc = .ok (.ineg, 1)) (hp : pc + 1 = pc')
    (k : Go p e below (T.setTop (mkF m pc' Ls (.int (-x) :: st))) G) : Go p e below (T.setTop (mkF m pc Ls (.int x :: st))) G := by
  subst hp; exact go (fun _ => XS.ineg X.here K.1 (g := mkF m pc Ls (.int x :: st)) rfl (dc K hd) rfl) k
theorem i_lneg (K : Cx p l e R s m meth c Z a0 W own nm bytes ml rt) (X : On p l e R s m args below meth c D Z n0 T A cells slots) {x : Int64} {pc' : Nat} (hd : decode bytes pc = .ok (.lneg, 1)) (hp : pc + 1 = pc')
    (k : Go p e below (T.setTop (mkF m pc' Ls (.long (-x) :: st))) G) : Go p e below (T.setTop (mkF m pc Ls (.long x :: st))) G := by
  subst hp; exact go (fun _ => XS.lneg X.here K.1 (g := mkF m pc Ls (.long x :: st)) rfl (dc K hd) rfl) k
theorem i_i2b (K : Cx p l e R s m meth c Z a0 W own nm bytes ml rt) (X : On p l e R s m args below meth c D Z n0 T A cells slots) {x : Int32} {pc' : Nat} (hd : decode bytes pc = .ok (.i2b, 1)) (hp : pc + 1 = pc')
    (k : Go p e below (T.setTop (mkF m pc' Ls (.int (x.toInt8.toInt32) :: st))) G) : Go p e below (T.setTop (mkF m pc Ls (.int x :: st))) G := by
  subst hp; exact go (fun _ => XS.i2b X.here K.1 (g := mkF m pc Ls (.int x :: st)) rfl (dc K hd) rfl) k
theorem i_i2c (K : Cx p l e R s m meth c Z a0 W own nm bytes ml rt) (X : On p l e R s m args below meth c D Z n0 T A cells slots) {x : Int32} {pc' : Nat} (hd : decode bytes pc = .ok (.i2c, 1)) (hp : pc + 1 = pc')
    (k : Go p e below (T.setTop (mkF m pc' Ls (.int (x.toUInt32.toUInt16.toUInt32.toInt32) :: st))) G) : Go p e below (T.setTop (mkF m pc Ls (.int x :: st))) G := by
  subst hp; exact go (fun _ => XS.i2c X.here K.1 (g := mkF m pc Ls (.int x :: st)) rfl (dc K hd) rfl) k
theorem i_i2s (K : Cx p l e R s m meth c Z a0 W own nm bytes ml rt) (X : On p l e R s m args below meth c D Z n0 T A cells slots) {x : Int32} {pc' : Nat} (hd : decode bytes pc = .ok (.i2s, 1)) (hp : pc + 1 = pc')
    (k : Go p e below (T.setTop (mkF m pc' Ls (.int (x.toInt16.toInt32) :: st))) G) : Go p e below (T.setTop (mkF m pc Ls (.int x :: st))) G := by
  subst hp; exact go (fun _ => XS.i2s X.here K.1 (g := mkF m pc Ls (.int x :: st)) rfl (dc K hd) rfl) k
theorem i_i2l (K : Cx p l e R s m meth c Z a0 W own nm bytes ml rt) (X : On p l e R s m args below meth c D Z n0 T A cells slots) {x : Int32} {pc' : Nat} (hd : decode bytes pc = .ok (.i2l, 1)) (hp : pc + 1 = pc')
    (k : Go p e below (T.setTop (mkF m pc' Ls (.long (x.toInt64) :: st))) G) : Go p e below (T.setTop (mkF m pc Ls (.int x :: st))) G := by
  subst hp; exact go (fun _ => XS.i2l X.here K.1 (g := mkF m pc Ls (.int x :: st)) rfl (dc K hd) rfl) k
theorem i_l2i (K : Cx p l e R s m meth c Z a0 W own nm bytes ml rt) (X : On p l e R s m args below meth c D Z n0 T A cells slots) {x : Int64} {pc' : Nat} (hd : decode bytes pc = .ok (.l2i, 1)) (hp : pc + 1 = pc')
    (k : Go p e below (T.setTop (mkF m pc' Ls (.int (x.toInt32) :: st))) G) : Go p e below (T.setTop (mkF m pc Ls (.long x :: st))) G := by
  subst hp; exact go (fun _ => XS.l2i X.here K.1 (g := mkF m pc Ls (.long x :: st)) rfl (dc K hd) rfl) k
theorem i_lcmp (K : Cx p l e R s m meth c Z a0 W own nm bytes ml rt) (X : On p l e R s m args below meth c D Z n0 T A cells slots) {x y : Int64} {pc' : Nat} (hd : decode bytes pc = .ok (.lcmp, 1)) (hp : pc + 1 = pc')
    (k : Go p e below (T.setTop (mkF m pc' Ls (.int (lcmpW x y) :: st))) G) : Go p e below (T.setTop (mkF m pc Ls (.long y :: .long x :: st))) G := by
  subst hp; exact go (fun _ => XS.lcmp X.here K.1 (g := mkF m pc Ls (.long y :: .long x :: st)) rfl (dc K hd) rfl) k
theorem i_pop (K : Cx p l e R s m meth c Z a0 W own nm bytes ml rt) (X : On p l e R s m args below meth c D Z n0 T A cells slots) {x : Value} {pc' : Nat} (hd : decode bytes pc = .ok (.pop, 1)) (hp : pc + 1 = pc') (h1 : x.category = 1)
    (k : Go p e below (T.setTop (mkF m pc' Ls (st))) G) : Go p e below (T.setTop (mkF m pc Ls (x :: st))) G := by
  subst hp; exact go (fun _ => XS.pop X.here K.1 (g := mkF m pc Ls (x :: st)) rfl (dc K hd) rfl h1) k
theorem i_dup (K : Cx p l e R s m meth c Z a0 W own nm bytes ml rt) (X : On p l e R s m args below meth c D Z n0 T A cells slots) {x : Value} {pc' : Nat} (hd : decode bytes pc = .ok (.dup, 1)) (hp : pc + 1 = pc') (h1 : x.category = 1)
    (k : Go p e below (T.setTop (mkF m pc' Ls (x :: x :: st))) G) : Go p e below (T.setTop (mkF m pc Ls (x :: st))) G := by
  subst hp; exact go (fun _ => XS.dup X.here K.1 (g := mkF m pc Ls (x :: st)) rfl (dc K hd) rfl h1) k
theorem i_dupX1 (K : Cx p l e R s m meth c Z a0 W own nm bytes ml rt) (X : On p l e R s m args below meth c D Z n0 T A cells slots) {x y : Value} {pc' : Nat} (hd : decode bytes pc = .ok (.dup_x1, 1)) (hp : pc + 1 = pc') (h1 : x.category = 1) (h2 : y.category = 1)
    (k : Go p e below (T.setTop (mkF m pc' Ls (x :: y :: x :: st))) G) : Go p e below (T.setTop (mkF m pc Ls (x :: y :: st))) G := by
  subst hp; exact go (fun _ => XS.dupX1 X.here K.1 (g := mkF m pc Ls (x :: y :: st)) rfl (dc K hd) rfl h1 h2) k
theorem i_swap (K : Cx p l e R s m meth c Z a0 W own nm bytes ml rt) (X : On p l e R s m args below meth c D Z n0 T A cells slots) {x y : Value} {pc' : Nat} (hd : decode bytes pc = .ok (.swap, 1)) (hp : pc + 1 = pc') (h1 : x.category = 1) (h2 : y.category = 1)
    (k : Go p e below (T.setTop (mkF m pc' Ls (y :: x :: st))) G) : Go p e below (T.setTop (mkF m pc Ls (x :: y :: st))) G := by
  subst hp; exact go (fun _ => XS.swap X.here K.1 (g := mkF m pc Ls (x :: y :: st)) rfl (dc K hd) rfl h1 h2) k
theorem i_iload (K : Cx p l e R s m meth c Z a0 W own nm bytes ml rt) (X : On p l e R s m args below meth c D Z n0 T A cells slots) {v : Int32} {i : Nat} {pc' : Nat} (hd : decode bytes pc = .ok (.iload i, 2)) (hp : pc + 2 = pc') (hl : Ls[i]? = some (.val (.int v)))
    (k : Go p e below (T.setTop (mkF m pc' Ls (.int v :: st))) G) : Go p e below (T.setTop (mkF m pc Ls (st))) G := by
  subst hp; exact go (fun _ => XS.iload X.here K.1 (g := mkF m pc Ls (st)) rfl (dc K hd) hl) k
theorem i_iloadN (K : Cx p l e R s m meth c Z a0 W own nm bytes ml rt) (X : On p l e R s m args below meth c D Z n0 T A cells slots) {v : Int32} {i : Fin 4} {pc' : Nat} (hd : decode bytes pc = .ok (.iload_n i, 1)) (hp : pc + 1 = pc') (hl : Ls[i.val]? = some (.val (.int v)))
    (k : Go p e below (T.setTop (mkF m pc' Ls (.int v :: st))) G) : Go p e below (T.setTop (mkF m pc Ls (st))) G := by
  subst hp; exact go (fun _ => XS.iloadN X.here K.1 (g := mkF m pc Ls (st)) rfl (dc K hd) hl) k
theorem i_lload (K : Cx p l e R s m meth c Z a0 W own nm bytes ml rt) (X : On p l e R s m args below meth c D Z n0 T A cells slots) {v : Int64} {i : Nat} {pc' : Nat} (hd : decode bytes pc = .ok (.lload i, 2)) (hp : pc + 2 = pc') (hl : Ls[i]? = some (.val (.long v)))
    (k : Go p e below (T.setTop (mkF m pc' Ls (.long v :: st))) G) : Go p e below (T.setTop (mkF m pc Ls (st))) G := by
  subst hp; exact go (fun _ => XS.lload X.here K.1 (g := mkF m pc Ls (st)) rfl (dc K hd) hl) k
theorem i_lloadN (K : Cx p l e R s m meth c Z a0 W own nm bytes ml rt) (X : On p l e R s m args below meth c D Z n0 T A cells slots) {v : Int64} {i : Fin 4} {pc' : Nat} (hd : decode bytes pc = .ok (.lload_n i, 1)) (hp : pc + 1 = pc') (hl : Ls[i.val]? = some (.val (.long v)))
    (k : Go p e below (T.setTop (mkF m pc' Ls (.long v :: st))) G) : Go p e below (T.setTop (mkF m pc Ls (st))) G := by
  subst hp; exact go (fun _ => XS.lloadN X.here K.1 (g := mkF m pc Ls (st)) rfl (dc K hd) hl) k
theorem i_aload (K : Cx p l e R s m meth c Z a0 W own nm bytes ml rt) (X : On p l e R s m args below meth c D Z n0 T A cells slots) {v : Value} {i : Nat} {pc' : Nat} (hd : decode bytes pc = .ok (.aload i, 2)) (hp : pc + 2 = pc') (hl : Ls[i]? = some (.val v)) (hv : v.isRef = true)
    (k : Go p e below (T.setTop (mkF m pc' Ls (v :: st))) G) : Go p e below (T.setTop (mkF m pc Ls (st))) G := by
  subst hp; exact go (fun _ => XS.aload X.here K.1 (g := mkF m pc Ls (st)) rfl (dc K hd) hl hv) k
theorem i_aloadN (K : Cx p l e R s m meth c Z a0 W own nm bytes ml rt) (X : On p l e R s m args below meth c D Z n0 T A cells slots) {v : Value} {i : Fin 4} {pc' : Nat} (hd : decode bytes pc = .ok (.aload_n i, 1)) (hp : pc + 1 = pc') (hl : Ls[i.val]? = some (.val v)) (hv : v.isRef = true)
    (k : Go p e below (T.setTop (mkF m pc' Ls (v :: st))) G) : Go p e below (T.setTop (mkF m pc Ls (st))) G := by
  subst hp; exact go (fun _ => XS.aloadN X.here K.1 (g := mkF m pc Ls (st)) rfl (dc K hd) hl hv) k
theorem i_istore (K : Cx p l e R s m meth c Z a0 W own nm bytes ml rt) (X : On p l e R s m args below meth c D Z n0 T A cells slots) {v : Int32} {i : Nat} {Ls' : Array Slot} {pc' : Nat} (hd : decode bytes pc = .ok (.istore i, 2)) (hp : pc + 2 = pc') (hl : storeLocals Ls i (.int v) = some Ls')
    (k : Go p e below (T.setTop (mkF m pc' Ls' (st))) G) : Go p e below (T.setTop (mkF m pc Ls (.int v :: st))) G := by
  subst hp; exact go (fun _ => XS.istore X.here K.1 (g := mkF m pc Ls (.int v :: st)) rfl (dc K hd) rfl hl) k
theorem i_istoreN (K : Cx p l e R s m meth c Z a0 W own nm bytes ml rt) (X : On p l e R s m args below meth c D Z n0 T A cells slots) {v : Int32} {i : Fin 4} {Ls' : Array Slot} {pc' : Nat} (hd : decode bytes pc = .ok (.istore_n i, 1)) (hp : pc + 1 = pc') (hl : storeLocals Ls i.val (.int v) = some Ls')
    (k : Go p e below (T.setTop (mkF m pc' Ls' (st))) G) : Go p e below (T.setTop (mkF m pc Ls (.int v :: st))) G := by
  subst hp; exact go (fun _ => XS.istoreN X.here K.1 (g := mkF m pc Ls (.int v :: st)) rfl (dc K hd) rfl hl) k
theorem i_lstore (K : Cx p l e R s m meth c Z a0 W own nm bytes ml rt) (X : On p l e R s m args below meth c D Z n0 T A cells slots) {v : Int64} {i : Nat} {Ls' : Array Slot} {pc' : Nat} (hd : decode bytes pc = .ok (.lstore i, 2)) (hp : pc + 2 = pc') (hl : storeLocals Ls i (.long v) = some Ls')
    (k : Go p e below (T.setTop (mkF m pc' Ls' (st))) G) : Go p e below (T.setTop (mkF m pc Ls (.long v :: st))) G := by
  subst hp; exact go (fun _ => XS.lstore X.here K.1 (g := mkF m pc Ls (.long v :: st)) rfl (dc K hd) rfl hl) k
theorem i_lstoreN (K : Cx p l e R s m meth c Z a0 W own nm bytes ml rt) (X : On p l e R s m args below meth c D Z n0 T A cells slots) {v : Int64} {i : Fin 4} {Ls' : Array Slot} {pc' : Nat} (hd : decode bytes pc = .ok (.lstore_n i, 1)) (hp : pc + 1 = pc') (hl : storeLocals Ls i.val (.long v) = some Ls')
    (k : Go p e below (T.setTop (mkF m pc' Ls' (st))) G) : Go p e below (T.setTop (mkF m pc Ls (.long v :: st))) G := by
  subst hp; exact go (fun _ => XS.lstoreN X.here K.1 (g := mkF m pc Ls (.long v :: st)) rfl (dc K hd) rfl hl) k
theorem i_astore (K : Cx p l e R s m meth c Z a0 W own nm bytes ml rt) (X : On p l e R s m args below meth c D Z n0 T A cells slots) {v : Value} {i : Nat} {Ls' : Array Slot} {pc' : Nat} (hd : decode bytes pc = .ok (.astore i, 2)) (hp : pc + 2 = pc') (hl : storeLocals Ls i v = some Ls') (hv : v.isRef = true)
    (k : Go p e below (T.setTop (mkF m pc' Ls' (st))) G) : Go p e below (T.setTop (mkF m pc Ls (v :: st))) G := by
  subst hp; exact go (fun _ => XS.astore X.here K.1 (g := mkF m pc Ls (v :: st)) rfl (dc K hd) rfl hv hl) k
theorem i_astoreN (K : Cx p l e R s m meth c Z a0 W own nm bytes ml rt) (X : On p l e R s m args below meth c D Z n0 T A cells slots) {v : Value} {i : Fin 4} {Ls' : Array Slot} {pc' : Nat} (hd : decode bytes pc = .ok (.astore_n i, 1)) (hp : pc + 1 = pc') (hl : storeLocals Ls i.val v = some Ls') (hv : v.isRef = true)
    (k : Go p e below (T.setTop (mkF m pc' Ls' (st))) G) : Go p e below (T.setTop (mkF m pc Ls (v :: st))) G := by
  subst hp; exact go (fun _ => XS.astoreN X.here K.1 (g := mkF m pc Ls (v :: st)) rfl (dc K hd) rfl hv hl) k
theorem i_iconst (K : Cx p l e R s m meth c Z a0 W own nm bytes ml rt) (X : On p l e R s m args below meth c D Z n0 T A cells slots) {i : Int} {v : Int32} {pc' : Nat} (hd : decode bytes pc = .ok (.iconst i, 1)) (hp : pc + 1 = pc') (hv : Int32.ofInt i = v)
    (k : Go p e below (T.setTop (mkF m pc' Ls (.int v :: st))) G) : Go p e below (T.setTop (mkF m pc Ls st)) G := by
  subst hp hv; exact go (fun _ => XS.iconst X.here K.1 (g := mkF m pc Ls st) rfl (dc K hd)) k
theorem i_bipush (K : Cx p l e R s m meth c Z a0 W own nm bytes ml rt) (X : On p l e R s m args below meth c D Z n0 T A cells slots) {i : Int} {v : Int32} {pc' : Nat} (hd : decode bytes pc = .ok (.bipush i, 2)) (hp : pc + 2 = pc') (hv : (Int8.ofInt i).toInt32 = v)
    (k : Go p e below (T.setTop (mkF m pc' Ls (.int v :: st))) G) : Go p e below (T.setTop (mkF m pc Ls st)) G := by
  subst hp hv; exact go (fun _ => XS.bipush X.here K.1 (g := mkF m pc Ls st) rfl (dc K hd)) k
theorem i_sipush (K : Cx p l e R s m meth c Z a0 W own nm bytes ml rt) (X : On p l e R s m args below meth c D Z n0 T A cells slots) {i : Int} {v : Int32} {pc' : Nat} (hd : decode bytes pc = .ok (.sipush i, 3)) (hp : pc + 3 = pc') (hv : (Int16.ofInt i).toInt32 = v)
    (k : Go p e below (T.setTop (mkF m pc' Ls (.int v :: st))) G) : Go p e below (T.setTop (mkF m pc Ls st)) G := by
  subst hp hv; exact go (fun _ => XS.sipush X.here K.1 (g := mkF m pc Ls st) rfl (dc K hd)) k
theorem i_lconst (K : Cx p l e R s m meth c Z a0 W own nm bytes ml rt) (X : On p l e R s m args below meth c D Z n0 T A cells slots) {i : Fin 2} {v : Int64} {pc' : Nat} (hd : decode bytes pc = .ok (.lconst i, 1)) (hp : pc + 1 = pc') (hv : Int64.ofNat i = v)
    (k : Go p e below (T.setTop (mkF m pc' Ls (.long v :: st))) G) : Go p e below (T.setTop (mkF m pc Ls st)) G := by
  subst hp hv; exact go (fun _ => XS.lconst X.here K.1 (g := mkF m pc Ls st) rfl (dc K hd)) k
theorem i_aconstNull (K : Cx p l e R s m meth c Z a0 W own nm bytes ml rt) (X : On p l e R s m args below meth c D Z n0 T A cells slots)  {pc' : Nat} (hd : decode bytes pc = .ok (.aconst_null, 1)) (hp : pc + 1 = pc')
    (k : Go p e below (T.setTop (mkF m pc' Ls (.null :: st))) G) : Go p e below (T.setTop (mkF m pc Ls (st))) G := by
  subst hp; exact go (fun _ => XS.aconstNull X.here K.1 (g := mkF m pc Ls (st)) rfl (dc K hd)) k
theorem i_iinc (K : Cx p l e R s m meth c Z a0 W own nm bytes ml rt) (X : On p l e R s m args below meth c D Z n0 T A cells slots) {x y : Int32} {i : Nat} {cst : Int} {Ls' : Array Slot} {pc' : Nat} (hd : decode bytes pc = .ok (.iinc i cst, 3)) (hp : pc + 3 = pc') (hl : Ls[i]? = some (.val (.int x))) (hy : Int32.ofInt cst = y) (hl' : storeLocals Ls i (.int (x + y)) = some Ls')
    (k : Go p e below (T.setTop (mkF m pc' Ls' st)) G) : Go p e below (T.setTop (mkF m pc Ls st)) G := by
  subst hp hy; exact go (fun _ => XS.iinc X.here K.1 (g := mkF m pc Ls st) rfl (dc K hd) hl hl') k
theorem i_goto (K : Cx p l e R s m meth c Z a0 W own nm bytes ml rt) (X : On p l e R s m args below meth c D Z n0 T A cells slots)  {o : Int} {pc' : Nat} (hd : decode bytes pc = .ok (.goto o, 3))  (ho : 0 ≤ (pc : Int) + o) (hp : ((pc : Int) + o).toNat = pc')
    (k : Go p e below (T.setTop (mkF m pc' Ls st)) G) : Go p e below (T.setTop (mkF m pc Ls (st))) G := by
  exact go (fun _ => XS.goto X.here K.1 (g := mkF m pc Ls (st)) rfl (pc0 := pc) (pc' := pc') rfl (dc K hd)  ho hp) k
theorem i_ifYes (K : Cx p l e R s m meth c Z a0 W own nm bytes ml rt) (X : On p l e R s m args below meth c D Z n0 T A cells slots) {cd : ClassFile.Cond} {x : Int32} {o : Int} {pc' : Nat} (hd : decode bytes pc = .ok (.ifCond cd o, 3)) (h : if_icmp.holds cd x 0 = true) (ho : 0 ≤ (pc : Int) + o) (hp : ((pc : Int) + o).toNat = pc')
    (k : Go p e below (T.setTop (mkF m pc' Ls st)) G) : Go p e below (T.setTop (mkF m pc Ls (.int x :: st))) G := by
  exact go (fun _ => XS.ifYes X.here K.1 (g := mkF m pc Ls (.int x :: st)) rfl (pc0 := pc) (pc' := pc') rfl (dc K hd) rfl ((if0 _ _).trans h) ho hp) k
theorem i_icmpYes (K : Cx p l e R s m meth c Z a0 W own nm bytes ml rt) (X : On p l e R s m args below meth c D Z n0 T A cells slots) {cd : ClassFile.Cond} {x y : Int32} {o : Int} {pc' : Nat} (hd : decode bytes pc = .ok (.if_icmp cd o, 3)) (h : if_icmp.holds cd x y = true) (ho : 0 ≤ (pc : Int) + o) (hp : ((pc : Int) + o).toNat = pc')
    (k : Go p e below (T.setTop (mkF m pc' Ls st)) G) : Go p e below (T.setTop (mkF m pc Ls (.int y :: .int x :: st))) G := by
  exact go (fun _ => XS.icmpYes X.here K.1 (g := mkF m pc Ls (.int y :: .int x :: st)) rfl (pc0 := pc) (pc' := pc') rfl (dc K hd) rfl h ho hp) k
theorem i_ifNo (K : Cx p l e R s m meth c Z a0 W own nm bytes ml rt) (X : On p l e R s m args below meth c D Z n0 T A cells slots) {cd : ClassFile.Cond} {x : Int32} {o : Int} {pc' : Nat} (hd : decode bytes pc = .ok (.ifCond cd o, 3)) (hp : pc + 3 = pc') (h : if_icmp.holds cd x 0 = false)
    (k : Go p e below (T.setTop (mkF m pc' Ls (st))) G) : Go p e below (T.setTop (mkF m pc Ls (.int x :: st))) G := by
  subst hp; exact go (fun _ => XS.ifNo X.here K.1 (g := mkF m pc Ls (.int x :: st)) rfl (dc K hd) rfl ((if0 _ _).trans h)) k
theorem i_icmpNo (K : Cx p l e R s m meth c Z a0 W own nm bytes ml rt) (X : On p l e R s m args below meth c D Z n0 T A cells slots) {cd : ClassFile.Cond} {x y : Int32} {o : Int} {pc' : Nat} (hd : decode bytes pc = .ok (.if_icmp cd o, 3)) (hp : pc + 3 = pc') (h : if_icmp.holds cd x y = false)
    (k : Go p e below (T.setTop (mkF m pc' Ls (st))) G) : Go p e below (T.setTop (mkF m pc Ls (.int y :: .int x :: st))) G := by
  subst hp; exact go (fun _ => XS.icmpNo X.here K.1 (g := mkF m pc Ls (.int y :: .int x :: st)) rfl (dc K hd) rfl h) k
theorem i_ifnullYes (K : Cx p l e R s m meth c Z a0 W own nm bytes ml rt) (X : On p l e R s m args below meth c D Z n0 T A cells slots)  {o : Int} {pc' : Nat} (hd : decode bytes pc = .ok (.ifnull o, 3))  (ho : 0 ≤ (pc : Int) + o) (hp : ((pc : Int) + o).toNat = pc')
    (k : Go p e below (T.setTop (mkF m pc' Ls st)) G) : Go p e below (T.setTop (mkF m pc Ls (.null :: st))) G := by
  exact go (fun _ => XS.ifnullYes X.here K.1 (g := mkF m pc Ls (.null :: st)) rfl (pc0 := pc) (pc' := pc') rfl (dc K hd) rfl ho hp) k
theorem i_ifnullNo (K : Cx p l e R s m meth c Z a0 W own nm bytes ml rt) (X : On p l e R s m args below meth c D Z n0 T A cells slots) {b : Addr} {o : Int} {pc' : Nat} (hd : decode bytes pc = .ok (.ifnull o, 3)) (hp : pc + 3 = pc')
    (k : Go p e below (T.setTop (mkF m pc' Ls (st))) G) : Go p e below (T.setTop (mkF m pc Ls (.ref b :: st))) G := by
  subst hp; exact go (fun _ => XS.ifnullNo X.here K.1 (g := mkF m pc Ls (.ref b :: st)) rfl (dc K hd) rfl) k
theorem i_ifnonnullYes (K : Cx p l e R s m meth c Z a0 W own nm bytes ml rt) (X : On p l e R s m args below meth c D Z n0 T A cells slots) {b : Addr} {o : Int} {pc' : Nat} (hd : decode bytes pc = .ok (.ifnonnull o, 3))  (ho : 0 ≤ (pc : Int) + o) (hp : ((pc : Int) + o).toNat = pc')
    (k : Go p e below (T.setTop (mkF m pc' Ls st)) G) : Go p e below (T.setTop (mkF m pc Ls (.ref b :: st))) G := by
  exact go (fun _ => XS.ifnonnullYes X.here K.1 (g := mkF m pc Ls (.ref b :: st)) rfl (pc0 := pc) (pc' := pc') rfl (dc K hd) rfl ho hp) k
theorem i_ifnonnullNo (K : Cx p l e R s m meth c Z a0 W own nm bytes ml rt) (X : On p l e R s m args below meth c D Z n0 T A cells slots) {o : Int} {pc' : Nat} (hd : decode bytes pc = .ok (.ifnonnull o, 3)) (hp : pc + 3 = pc')
    (k : Go p e below (T.setTop (mkF m pc' Ls (st))) G) : Go p e below (T.setTop (mkF m pc Ls (.null :: st))) G := by
  subst hp; exact go (fun _ => XS.ifnonnullNo X.here K.1 (g := mkF m pc Ls (.null :: st)) rfl (dc K hd) rfl) k
theorem i_dup2 (K : Cx p l e R s m meth c Z a0 W own nm bytes ml rt) (X : On p l e R s m args below meth c D Z n0 T A cells slots) {x y : Value} {pc' : Nat} (hd : decode bytes pc = .ok (.dup2, 1)) (hp : pc + 1 = pc') (h1 : x.category = 1) (h2 : y.category = 1)
    (k : Go p e below (T.setTop (mkF m pc' Ls (x :: y :: x :: y :: st))) G) : Go p e below (T.setTop (mkF m pc Ls (x :: y :: st))) G := by
  subst hp; exact go (fun _ => Jvm.Free.XT.dup2 X.here K.1 (g := mkF m pc Ls (x :: y :: st)) rfl (dc K hd) rfl h1 h2) k
theorem i_dup2L (K : Cx p l e R s m meth c Z a0 W own nm bytes ml rt) (X : On p l e R s m args below meth c D Z n0 T A cells slots) {x : Int64} {pc' : Nat} (hd : decode bytes pc = .ok (.dup2, 1)) (hp : pc + 1 = pc') 
    (k : Go p e below (T.setTop (mkF m pc' Ls (.long x :: .long x :: st))) G) : Go p e below (T.setTop (mkF m pc Ls (.long x :: st))) G := by
  subst hp; exact go (fun _ => Jvm.Free.XT.dup2L X.here K.1 (g := mkF m pc Ls (.long x :: st)) rfl (dc K hd) rfl) k
theorem i_dupX2 (K : Cx p l e R s m meth c Z a0 W own nm bytes ml rt) (X : On p l e R s m args below meth c D Z n0 T A cells slots) {x : Int32} {y : Int32} {z : Addr} {pc' : Nat} (hd : decode bytes pc = .ok (.dup_x2, 1)) (hp : pc + 1 = pc')
    (k : Go p e below (T.setTop (mkF m pc' Ls (.int x :: .int y :: .ref z :: .int x :: st))) G) : Go p e below (T.setTop (mkF m pc Ls (.int x :: .int y :: .ref z :: st))) G := by
  subst hp
  refine go (fun t hk => ?_) k
  have hdc := dc K hd
  jvm_step X.here [X.here.top, K.1, hdc, Value.category]
  exact hk
theorem i_dup2X1 (K : Cx p l e R s m meth c Z a0 W own nm bytes ml rt) (X : On p l e R s m args below meth c D Z n0 T A cells slots) {x : Int64} {z : Addr} {pc' : Nat} (hd : decode bytes pc = .ok (.dup2_x1, 1)) (hp : pc + 1 = pc')
    (k : Go p e below (T.setTop (mkF m pc' Ls (.long x :: .ref z :: .long x :: st))) G) : Go p e below (T.setTop (mkF m pc Ls (.long x :: .ref z :: st))) G := by
  subst hp
  refine go (fun t hk => ?_) k
  have hdc := dc K hd
  jvm_step X.here [X.here.top, K.1, hdc, Value.category]
  exact hk
theorem i_dup2X2 (K : Cx p l e R s m meth c Z a0 W own nm bytes ml rt) (X : On p l e R s m args below meth c D Z n0 T A cells slots) {x : Int64} {y : Int32} {z : Addr} {pc' : Nat} (hd : decode bytes pc = .ok (.dup2_x2, 1)) (hp : pc + 1 = pc')
    (k : Go p e below (T.setTop (mkF m pc' Ls (.long x :: .int y :: .ref z :: .long x :: st))) G) : Go p e below (T.setTop (mkF m pc Ls (.long x :: .int y :: .ref z :: st))) G := by
  subst hp
  refine go (fun t hk => ?_) k
  have hdc := dc K hd
  jvm_step X.here [X.here.top, K.1, hdc, Value.category]
  exact hk
theorem stOne {Ls Ls' : Array Slot} {i : Nat} {v : Value} {o : Slot} (h : One o) (hold : Ls[i]? = some o) (hv : v.category = 1) (e : Ls.setIfInBounds i (.val v) = Ls') : storeLocals Ls i v = some Ls' := by
  rw [← e]; exact XS.store1 hold h hv
theorem bs {α β : Type} {o : Option α} {f : α → Option β} {b : β} (h : o.bind f = some b) : ∃ a, o = some a ∧ f a = some b := Option.bind_eq_some_iff.mp h
end Instr
end Jvm.OwnKit
namespace Jvm.Pilot.@@N@@
open Jvm Jvm.ClassFile Sem Op Lib Jvm.Free Jvm.Stand Jvm.LawKit Jvm.RoadKit Jvm.OwnKit Bundle Jvm.Pilot.@@N@@.Jvm.D
def own_D : Dic
  | 10 => ("com/example/albatross/albatross/sim/LongQueue", [("com/example/albatross/albatross/sim/LongQueue", "items", "[J"), ("com/example/albatross/albatross/sim/LongQueue", "size", "I"), ("com/example/albatross/albatross/sim/LongQueue", "head", "I")])
  | _ => ("", [])
theorem own_sep {Z : State} {a0 : Array Value} (hw : ∀ d ∈ tables_1, d.before a0 Z = true) : ∀ t, Sep Z (own_D t).2 := by
  intro t
  unfold own_D
  split
  · refine sep_of (a0 := a0) (C := "com/example/albatross/albatross/sim/LongQueue") (fun x hx => ?_) (by decide)
    simp only [List.mem_cons, List.not_mem_nil, or_false] at hx
    rcases hx with rfl | rfl | rfl
    · exact ⟨Or.inl (hw _ (List.mem_of_getElem? (i := 11) rfl)), by decide⟩
    · exact ⟨Or.inl (hw _ (List.mem_of_getElem? (i := 18) rfl)), by decide⟩
    · exact ⟨Or.inl (hw _ (List.mem_of_getElem? (i := 20) rfl)), by decide⟩
  · exact Sep.nil
def own_ds10 : List Value := [.null, (.int 0), (.int 0)]
theorem own_dsL10 {p : Program} {l : Launch} {e : Env} {R : Room} {s : State} {m : MethodId} {meth : Method} {c : Code} {Z : State} {a0 : Array Value} {own nm : String} {bytes : ByteArray} {ml n0 : Nat} {rt : Option FieldType} (K : Cx p l e R s m meth c Z a0 tables_1 own nm bytes ml rt) : ∀ (k : Nat) (O f d : String) (v : Value), (own_D 10).2[k]? = some (O, f, d) → own_ds10[k]? = some v → ∃ ty, parseFieldDescriptor d = some ty ∧ Laid Z a0 (own_D 10).1 O f d ∧ lf n0 v = defaultValue ty := by
  intro k O f d v h1 h2
  rcases k with _ | _ | _ |  k
  · simp only [own_D, own_ds10, List.getElem?_cons_zero, List.getElem?_cons_succ, Option.some.injEq, Prod.mk.injEq] at h1 h2
    obtain ⟨rfl, rfl, rfl⟩ := h1; subst h2
    exact ⟨(.array .long), by decide, Or.inl (wd K (i := 11) rfl), rfl⟩
  · simp only [own_D, own_ds10, List.getElem?_cons_zero, List.getElem?_cons_succ, Option.some.injEq, Prod.mk.injEq] at h1 h2
    obtain ⟨rfl, rfl, rfl⟩ := h1; subst h2
    exact ⟨.int, by decide, Or.inl (wd K (i := 18) rfl), rfl⟩
  · simp only [own_D, own_ds10, List.getElem?_cons_zero, List.getElem?_cons_succ, Option.some.injEq, Prod.mk.injEq] at h1 h2
    obtain ⟨rfl, rfl, rfl⟩ := h1; subst h2
    exact ⟨.int, by decide, Or.inl (wd K (i := 20) rfl), rfl⟩
  · simp [own_D] at h1
section OwnWalk
variable {p : Program} {l : Launch} {e : Env} {s : State} {m : MethodId} {args : Array Value} {below : List Frame} {meth : Method} {c : Code} {Z : State} {a0 : Array Value} {n0 : Nat} {T : State} {A : AH} {cells slots : Nat}
/-! body 1: LongQueue.<init>()V -/
theorem d1_0 : decode prog_41_method_1_code 0 = .ok (.aload_n 0, 1) := by decide +kernel
theorem d1_1 : decode prog_41_method_1_code 1 = .ok (.invokespecial 1, 3) := by decide +kernel
theorem d1_4 : decode prog_41_method_1_code 4 = .ok (.aload_n 0, 1) := by decide +kernel
theorem d1_5 : decode prog_41_method_1_code 5 = .ok (.bipush 16, 2) := by decide +kernel
theorem d1_7 : decode prog_41_method_1_code 7 = .ok (.newarray .long, 2) := by decide +kernel
theorem d1_9 : decode prog_41_method_1_code 9 = .ok (.putfield 7, 3) := by decide +kernel
theorem d1_12 : decode prog_41_method_1_code 12 = .ok (.return_, 1) := by decide +kernel
theorem pd_1 : parseMethodDescriptor "()V" = some ⟨[], none⟩ := by decide +kernel
abbrev own_R1 : Room := { frames := 1, cells := 1, slots := 16, locals := 12 }
def f1_0 (A : AH) (o0 : Nat) : Option (AH) :=
  (h_anew A 3 16 (16 : Int32) (.long 0)).bind fun q2 =>
  (h_fset q2.2 10 o0 0 (.ref q2.1)).bind fun A3 =>
  some A3
set_option maxRecDepth 65536 in
set_option maxHeartbeats 4000000 in
theorem w1_0 (K : Cx p l e own_R1 s m meth c Z a0 tables_1 "com/example/albatross/albatross/sim/LongQueue" "<init>" prog_41_method_1_code 1 none) (sep : ∀ t, Sep Z (own_D t).2) (X : On p l e own_R1 s m args below meth c own_D Z n0 T A cells slots) (o0 : Nat) (hc : cells + 1 ≤ 1) (hs : slots + 16 ≤ 16) {q : AH} (hf : f1_0 A o0 = some q) :
    Go p e below (T.setTop (mkF m 0 #[.val (.ref (n0 + o0))] [])) (Fini own_D Z n0 s own_R1 none q) := by
  unfold f1_0 at hf
  refine i_aloadN (pc' := 1) K X d1_0 rfl rfl rfl ?_
  refine obj (pc' := 4) K X (i1 := 6) rfl (i2 := 7) rfl (i3 := 8) rfl d1_1 rfl (by decide) (w := 0) (Nat.le_of_eq rfl) (by decide) rfl (fun T1 X1 => ?_)
  refine i_aloadN (pc' := 5) K X1 d1_4 rfl rfl rfl ?_
  refine i_bipush (pc' := 7) (v := (16 : Int32)) K X1 d1_5 rfl rfl ?_
  obtain ⟨q2, g2, hf⟩ := bs hf
  refine newa (pc' := 9) K X1 (i1 := 9) (at' := .long) rfl d1_7 (t := 3) (cap := 16) (by decide) (show cells + 1 ≤ 1 by omega) (show slots + 16 ≤ 16 by omega) (by decide) rfl rfl g2 rfl (fun T2 X2 => ?_)
  obtain ⟨A3, g3, hf⟩ := bs hf
  refine putf (pc' := 12) K sep X2 (i := 10) rfl d1_9 (t := 10) (f := 0) (by decide) rfl (Or.inl (wd K (i := 11) rfl)) (i2 := 1) rfl (ty := (.array .long)) (by decide) rfl rfl g3 rfl (fun T3 X3 => ?_)
  cases hf
  exact retV K X3 (show cells + 1 ≤ 1 by omega) (show slots + 16 ≤ 16 by omega) d1_12
theorem pn_1 : plainName "com/example/albatross/albatross/sim/LongQueue" = true := by first | (simp [plainName, overriddenIn]; done) | decide +kernel
theorem rm1 {l : Launch} {Z : State} {a0 : Array Value} {n0 : Nat} (hw : ∀ d ∈ tables_1, d.before a0 Z = true) (A : AH) (o0 : Nat) {q : AH} (hf : f1_0 A o0 = some q) :
    Met l own_D Z n0 (⟨"com/example/albatross/albatross/sim/LongQueue", "<init>", "()V"⟩ : MethodName) prog_41_method_1_code 1 none own_R1 [(.ref (n0 + o0))] A none q :=
  met (W := tables_1) (a0 := a0) (own := "com/example/albatross/albatross/sim/LongQueue") (nm := "<init>") (L0 := #[.val (.ref (n0 + o0))]) (plainFor_of_name pn_1) hw rfl rfl (fun m => by first | (simp [entryFrame, mkF, argsToLocals, Value.category]; done) | rfl) (fun p e s m below meth c T K X => w1_0 K (own_sep hw) X o0 (show 0 + 1 ≤ 1 by decide) (show 0 + 16 ≤ 16 by decide) hf)
/-! body 2: LongQueue.add(J)V -/
theorem d2_0 : decode prog_41_method_6_code 0 = .ok (.aload_n 0, 1) := by decide +kernel
theorem d2_1 : decode prog_41_method_6_code 1 = .ok (.getfield 13, 3) := by decide +kernel
theorem d2_4 : decode prog_41_method_6_code 4 = .ok (.aload_n 0, 1) := by decide +kernel
theorem d2_5 : decode prog_41_method_6_code 5 = .ok (.getfield 7, 3) := by decide +kernel
theorem d2_8 : decode prog_41_method_6_code 8 = .ok (.arraylength, 1) := by decide +kernel
theorem d2_9 : decode prog_41_method_6_code 9 = .ok (.if_icmp .ne 65, 3) := by decide +kernel
theorem d2_74 : decode prog_41_method_6_code 74 = .ok (.aload_n 0, 1) := by decide +kernel
theorem d2_75 : decode prog_41_method_6_code 75 = .ok (.getfield 7, 3) := by decide +kernel
theorem d2_78 : decode prog_41_method_6_code 78 = .ok (.aload_n 0, 1) := by decide +kernel
theorem d2_79 : decode prog_41_method_6_code 79 = .ok (.getfield 17, 3) := by decide +kernel
theorem d2_82 : decode prog_41_method_6_code 82 = .ok (.aload_n 0, 1) := by decide +kernel
theorem d2_83 : decode prog_41_method_6_code 83 = .ok (.getfield 13, 3) := by decide +kernel
theorem d2_86 : decode prog_41_method_6_code 86 = .ok (.iadd, 1) := by decide +kernel
theorem d2_87 : decode prog_41_method_6_code 87 = .ok (.aload_n 0, 1) := by decide +kernel
theorem d2_88 : decode prog_41_method_6_code 88 = .ok (.getfield 7, 3) := by decide +kernel
theorem d2_91 : decode prog_41_method_6_code 91 = .ok (.arraylength, 1) := by decide +kernel
theorem d2_92 : decode prog_41_method_6_code 92 = .ok (.iconst 1, 1) := by decide +kernel
theorem d2_93 : decode prog_41_method_6_code 93 = .ok (.isub, 1) := by decide +kernel
theorem d2_94 : decode prog_41_method_6_code 94 = .ok (.iand, 1) := by decide +kernel
theorem d2_95 : decode prog_41_method_6_code 95 = .ok (.lload_n 1, 1) := by decide +kernel
theorem d2_96 : decode prog_41_method_6_code 96 = .ok (.lastore, 1) := by decide +kernel
theorem d2_97 : decode prog_41_method_6_code 97 = .ok (.aload_n 0, 1) := by decide +kernel
theorem d2_98 : decode prog_41_method_6_code 98 = .ok (.dup, 1) := by decide +kernel
theorem d2_99 : decode prog_41_method_6_code 99 = .ok (.getfield 13, 3) := by decide +kernel
theorem d2_102 : decode prog_41_method_6_code 102 = .ok (.iconst 1, 1) := by decide +kernel
theorem d2_103 : decode prog_41_method_6_code 103 = .ok (.iadd, 1) := by decide +kernel
theorem d2_104 : decode prog_41_method_6_code 104 = .ok (.putfield 13, 3) := by decide +kernel
theorem d2_107 : decode prog_41_method_6_code 107 = .ok (.return_, 1) := by decide +kernel
theorem pd_2 : parseMethodDescriptor "(J)V" = some ⟨[.long], none⟩ := by decide +kernel
abbrev own_R2 : Room := { frames := 0, cells := 0, slots := 0, locals := 0 }
def f2_92 (A : AH) (o0 : Nat) (j1 : Int64) (s0 : Int32) (s1 : Int32) (r2 : Nat) : Option (AH) :=
  (h_aset A 3 r2 (s1 &&& (s0 - (1 : Int32))) (.long j1)).bind fun A1 =>
  (asI (h_fget A1 10 o0 1)).bind fun v2 =>
  (h_fset A1 10 o0 1 (.int (v2 + (1 : Int32)))).bind fun A3 =>
  some A3
set_option maxRecDepth 65536 in
set_option maxHeartbeats 4000000 in
theorem w2_92 (K : Cx p l e own_R2 s m meth c Z a0 tables_1 "com/example/albatross/albatross/sim/LongQueue" "add" prog_41_method_6_code 5 none) (sep : ∀ t, Sep Z (own_D t).2) (X : On p l e own_R2 s m args below meth c own_D Z n0 T A cells slots) (o0 : Nat) (j1 : Int64) (s0 : Int32) (s1 : Int32) (r2 : Nat) (hc : cells + 0 ≤ 0) (hs : slots + 0 ≤ 0) {q : AH} (hf : f2_92 A o0 j1 s0 s1 r2 = some q) :
    Go p e below (T.setTop (mkF m 92 #[.val (.ref (n0 + o0)), .val (.long j1), .second, .unset, .unset] [(.int s0), (.int s1), (.ref (n0 + r2))])) (Fini own_D Z n0 s own_R2 none q) := by
  unfold f2_92 at hf
  refine i_iconst (pc' := 93) (v := (1 : Int32)) K X d2_92 rfl rfl ?_
  refine i_isub (pc' := 94) K X d2_93 rfl ?_
  refine i_iand (pc' := 95) K X d2_94 rfl ?_
  refine i_lloadN (pc' := 96) K X d2_95 rfl rfl ?_
  obtain ⟨A1, g1, hf⟩ := bs hf
  refine ast3 (pc' := 97) K X g1 d2_96 rfl (fun T1 X1 => ?_)
  refine i_aloadN (pc' := 98) K X1 d2_97 rfl rfl rfl ?_
  refine i_dup (pc' := 99) K X1 d2_98 rfl rfl ?_
  obtain ⟨v2, g2, hf⟩ := bs hf
  refine getfI (pc' := 102) K X1 (i := 17) rfl d2_99 (t := 10) (f := 1) (by decide) rfl g2 rfl (fun T2 X2 => ?_)
  refine i_iconst (pc' := 103) (v := (1 : Int32)) K X2 d2_102 rfl rfl ?_
  refine i_iadd (pc' := 104) K X2 d2_103 rfl ?_
  obtain ⟨A3, g3, hf⟩ := bs hf
  refine putf (pc' := 107) K sep X2 (i := 17) rfl d2_104 (t := 10) (f := 1) (by decide) rfl (Or.inl (wd K (i := 18) rfl)) (i2 := 1) rfl (ty := .int) (by decide) rfl rfl g3 rfl (fun T3 X3 => ?_)
  cases hf
  exact retV K X3 (show cells ≤ 0 by omega) (show slots ≤ 0 by omega) d2_107
def f2_0 (A : AH) (o0 : Nat) (j1 : Int64) : Option (AH) :=
  (asI (h_fget A 10 o0 1)).bind fun v1 =>
  (asR (h_fget A 10 o0 0)).bind fun v2 =>
  (h_alen A 3 v2).bind fun v3 =>
  if v1 = v3 then (none)
  else ((asR (h_fget A 10 o0 0)).bind fun v4 =>
  (asI (h_fget A 10 o0 2)).bind fun v5 =>
  (asI (h_fget A 10 o0 1)).bind fun v6 =>
  (asR (h_fget A 10 o0 0)).bind fun v7 =>
  (h_alen A 3 v7).bind fun v8 =>
  f2_92 A o0 j1 v8 (v5 + v6) v4)
set_option maxRecDepth 65536 in
set_option maxHeartbeats 4000000 in
theorem w2_0 (K : Cx p l e own_R2 s m meth c Z a0 tables_1 "com/example/albatross/albatross/sim/LongQueue" "add" prog_41_method_6_code 5 none) (sep : ∀ t, Sep Z (own_D t).2) (X : On p l e own_R2 s m args below meth c own_D Z n0 T A cells slots) (o0 : Nat) (j1 : Int64) (hc : cells + 0 ≤ 0) (hs : slots + 0 ≤ 0) {q : AH} (hf : f2_0 A o0 j1 = some q) :
    Go p e below (T.setTop (mkF m 0 #[.val (.ref (n0 + o0)), .val (.long j1), .second, .unset, .unset] [])) (Fini own_D Z n0 s own_R2 none q) := by
  unfold f2_0 at hf
  refine i_aloadN (pc' := 1) K X d2_0 rfl rfl rfl ?_
  obtain ⟨v1, g1, hf⟩ := bs hf
  refine getfI (pc' := 4) K X (i := 17) rfl d2_1 (t := 10) (f := 1) (by decide) rfl g1 rfl (fun T1 X1 => ?_)
  refine i_aloadN (pc' := 5) K X1 d2_4 rfl rfl rfl ?_
  obtain ⟨v2, g2, hf⟩ := bs hf
  refine getfR (pc' := 8) K X1 (i := 10) rfl d2_5 (t := 10) (f := 0) (by decide) rfl g2 rfl (fun T2 X2 => ?_)
  obtain ⟨v3, g3, hf⟩ := bs hf
  refine h_alen' (pc' := 9) K X2 (t := 3) (by decide) g3 d2_8 rfl ?_
  by_cases hc9 : v1 = v3
  · rw [if_pos hc9] at hf
    refine i_icmpNo (pc' := 12) K X2 d2_9 rfl (teq hc9).2 ?_
    cases hf
  · rw [if_neg hc9] at hf
    refine i_icmpYes (pc' := 74) K X2 d2_9 (feq hc9).2 (by decide) (by decide) ?_
    refine i_aloadN (pc' := 75) K X2 d2_74 rfl rfl rfl ?_
    obtain ⟨v4, g4, hf⟩ := bs hf
    refine getfR (pc' := 78) K X2 (i := 10) rfl d2_75 (t := 10) (f := 0) (by decide) rfl g4 rfl (fun T4 X4 => ?_)
    refine i_aloadN (pc' := 79) K X4 d2_78 rfl rfl rfl ?_
    obtain ⟨v5, g5, hf⟩ := bs hf
    refine getfI (pc' := 82) K X4 (i := 19) rfl d2_79 (t := 10) (f := 2) (by decide) rfl g5 rfl (fun T5 X5 => ?_)
    refine i_aloadN (pc' := 83) K X5 d2_82 rfl rfl rfl ?_
    obtain ⟨v6, g6, hf⟩ := bs hf
    refine getfI (pc' := 86) K X5 (i := 17) rfl d2_83 (t := 10) (f := 1) (by decide) rfl g6 rfl (fun T6 X6 => ?_)
    refine i_iadd (pc' := 87) K X6 d2_86 rfl ?_
    refine i_aloadN (pc' := 88) K X6 d2_87 rfl rfl rfl ?_
    obtain ⟨v7, g7, hf⟩ := bs hf
    refine getfR (pc' := 91) K X6 (i := 10) rfl d2_88 (t := 10) (f := 0) (by decide) rfl g7 rfl (fun T7 X7 => ?_)
    obtain ⟨v8, g8, hf⟩ := bs hf
    refine h_alen' (pc' := 92) K X7 (t := 3) (by decide) g8 d2_91 rfl ?_
    exact w2_92 K sep X7 o0 j1 v8 (v5 + v6) v4 (show cells + 0 ≤ 0 by omega) (show slots + 0 ≤ 0 by omega) hf
theorem pn_2 : plainName "com/example/albatross/albatross/sim/LongQueue" = true := by first | (simp [plainName, overriddenIn]; done) | decide +kernel
theorem rm2 {l : Launch} {Z : State} {a0 : Array Value} {n0 : Nat} (hw : ∀ d ∈ tables_1, d.before a0 Z = true) (A : AH) (o0 : Nat) (j1 : Int64) {q : AH} (hf : f2_0 A o0 j1 = some q) :
    Met l own_D Z n0 (⟨"com/example/albatross/albatross/sim/LongQueue", "add", "(J)V"⟩ : MethodName) prog_41_method_6_code 5 none own_R2 [(.ref (n0 + o0)), (.long j1)] A none q :=
  met (W := tables_1) (a0 := a0) (own := "com/example/albatross/albatross/sim/LongQueue") (nm := "add") (L0 := #[.val (.ref (n0 + o0)), .val (.long j1), .second, .unset, .unset]) (plainFor_of_name pn_2) hw rfl rfl (fun m => by first | (simp [entryFrame, mkF, argsToLocals, Value.category]; done) | rfl) (fun p e s m below meth c T K X => w2_0 K (own_sep hw) X o0 j1 (show 0 + 0 ≤ 0 by decide) (show 0 + 0 ≤ 0 by decide) hf)
/-! body 3: LongQueue.removeFirst()V -/
theorem d3_0 : decode prog_41_method_5_code 0 = .ok (.aload_n 0, 1) := by decide +kernel
theorem d3_1 : decode prog_41_method_5_code 1 = .ok (.aload_n 0, 1) := by decide +kernel
theorem d3_2 : decode prog_41_method_5_code 2 = .ok (.getfield 17, 3) := by decide +kernel
theorem d3_5 : decode prog_41_method_5_code 5 = .ok (.iconst 1, 1) := by decide +kernel
theorem d3_6 : decode prog_41_method_5_code 6 = .ok (.iadd, 1) := by decide +kernel
theorem d3_7 : decode prog_41_method_5_code 7 = .ok (.aload_n 0, 1) := by decide +kernel
theorem d3_8 : decode prog_41_method_5_code 8 = .ok (.getfield 7, 3) := by decide +kernel
theorem d3_11 : decode prog_41_method_5_code 11 = .ok (.arraylength, 1) := by decide +kernel
theorem d3_12 : decode prog_41_method_5_code 12 = .ok (.iconst 1, 1) := by decide +kernel
theorem d3_13 : decode prog_41_method_5_code 13 = .ok (.isub, 1) := by decide +kernel
theorem d3_14 : decode prog_41_method_5_code 14 = .ok (.iand, 1) := by decide +kernel
theorem d3_15 : decode prog_41_method_5_code 15 = .ok (.putfield 17, 3) := by decide +kernel
theorem d3_18 : decode prog_41_method_5_code 18 = .ok (.aload_n 0, 1) := by decide +kernel
theorem d3_19 : decode prog_41_method_5_code 19 = .ok (.dup, 1) := by decide +kernel
theorem d3_20 : decode prog_41_method_5_code 20 = .ok (.getfield 13, 3) := by decide +kernel
theorem d3_23 : decode prog_41_method_5_code 23 = .ok (.iconst 1, 1) := by decide +kernel
theorem d3_24 : decode prog_41_method_5_code 24 = .ok (.isub, 1) := by decide +kernel
theorem d3_25 : decode prog_41_method_5_code 25 = .ok (.putfield 13, 3) := by decide +kernel
theorem d3_28 : decode prog_41_method_5_code 28 = .ok (.return_, 1) := by decide +kernel
theorem pd_3 : parseMethodDescriptor "()V" = some ⟨[], none⟩ := by decide +kernel
abbrev own_R3 : Room := { frames := 0, cells := 0, slots := 0, locals := 0 }
def f3_24 (A : AH) (s0 : Int32) (s1 : Int32) (r2 : Nat) : Option (AH) :=
  (h_fset A 10 r2 1 (.int (s1 - s0))).bind fun A1 =>
  some A1
set_option maxRecDepth 65536 in
set_option maxHeartbeats 4000000 in
theorem w3_24 (K : Cx p l e own_R3 s m meth c Z a0 tables_1 "com/example/albatross/albatross/sim/LongQueue" "removeFirst" prog_41_method_5_code 1 none) (sep : ∀ t, Sep Z (own_D t).2) (X : On p l e own_R3 s m args below meth c own_D Z n0 T A cells slots) (o0 : Nat) (s0 : Int32) (s1 : Int32) (r2 : Nat) (hc : cells + 0 ≤ 0) (hs : slots + 0 ≤ 0) {q : AH} (hf : f3_24 A s0 s1 r2 = some q) :
    Go p e below (T.setTop (mkF m 24 #[.val (.ref (n0 + o0))] [(.int s0), (.int s1), (.ref (n0 + r2))])) (Fini own_D Z n0 s own_R3 none q) := by
  unfold f3_24 at hf
  refine i_isub (pc' := 25) K X d3_24 rfl ?_
  obtain ⟨A1, g1, hf⟩ := bs hf
  refine putf (pc' := 28) K sep X (i := 17) rfl d3_25 (t := 10) (f := 1) (by decide) rfl (Or.inl (wd K (i := 18) rfl)) (i2 := 1) rfl (ty := .int) (by decide) rfl rfl g1 rfl (fun T1 X1 => ?_)
  cases hf
  exact retV K X1 (show cells ≤ 0 by omega) (show slots ≤ 0 by omega) d3_28
def f3_0 (A : AH) (o0 : Nat) : Option (AH) :=
  (asI (h_fget A 10 o0 2)).bind fun v1 =>
  (asR (h_fget A 10 o0 0)).bind fun v2 =>
  (h_alen A 3 v2).bind fun v3 =>
  (h_fset A 10 o0 2 (.int ((v1 + (1 : Int32)) &&& (v3 - (1 : Int32))))).bind fun A4 =>
  (asI (h_fget A4 10 o0 1)).bind fun v5 =>
  f3_24 A4 (1 : Int32) v5 o0
set_option maxRecDepth 65536 in
set_option maxHeartbeats 4000000 in
theorem w3_0 (K : Cx p l e own_R3 s m meth c Z a0 tables_1 "com/example/albatross/albatross/sim/LongQueue" "removeFirst" prog_41_method_5_code 1 none) (sep : ∀ t, Sep Z (own_D t).2) (X : On p l e own_R3 s m args below meth c own_D Z n0 T A cells slots) (o0 : Nat) (hc : cells + 0 ≤ 0) (hs : slots + 0 ≤ 0) {q : AH} (hf : f3_0 A o0 = some q) :
    Go p e below (T.setTop (mkF m 0 #[.val (.ref (n0 + o0))] [])) (Fini own_D Z n0 s own_R3 none q) := by
  unfold f3_0 at hf
  refine i_aloadN (pc' := 1) K X d3_0 rfl rfl rfl ?_
  refine i_aloadN (pc' := 2) K X d3_1 rfl rfl rfl ?_
  obtain ⟨v1, g1, hf⟩ := bs hf
  refine getfI (pc' := 5) K X (i := 19) rfl d3_2 (t := 10) (f := 2) (by decide) rfl g1 rfl (fun T1 X1 => ?_)
  refine i_iconst (pc' := 6) (v := (1 : Int32)) K X1 d3_5 rfl rfl ?_
  refine i_iadd (pc' := 7) K X1 d3_6 rfl ?_
  refine i_aloadN (pc' := 8) K X1 d3_7 rfl rfl rfl ?_
  obtain ⟨v2, g2, hf⟩ := bs hf
  refine getfR (pc' := 11) K X1 (i := 10) rfl d3_8 (t := 10) (f := 0) (by decide) rfl g2 rfl (fun T2 X2 => ?_)
  obtain ⟨v3, g3, hf⟩ := bs hf
  refine h_alen' (pc' := 12) K X2 (t := 3) (by decide) g3 d3_11 rfl ?_
  refine i_iconst (pc' := 13) (v := (1 : Int32)) K X2 d3_12 rfl rfl ?_
  refine i_isub (pc' := 14) K X2 d3_13 rfl ?_
  refine i_iand (pc' := 15) K X2 d3_14 rfl ?_
  obtain ⟨A4, g4, hf⟩ := bs hf
  refine putf (pc' := 18) K sep X2 (i := 19) rfl d3_15 (t := 10) (f := 2) (by decide) rfl (Or.inl (wd K (i := 20) rfl)) (i2 := 1) rfl (ty := .int) (by decide) rfl rfl g4 rfl (fun T4 X4 => ?_)
  refine i_aloadN (pc' := 19) K X4 d3_18 rfl rfl rfl ?_
  refine i_dup (pc' := 20) K X4 d3_19 rfl rfl ?_
  obtain ⟨v5, g5, hf⟩ := bs hf
  refine getfI (pc' := 23) K X4 (i := 17) rfl d3_20 (t := 10) (f := 1) (by decide) rfl g5 rfl (fun T5 X5 => ?_)
  refine i_iconst (pc' := 24) (v := (1 : Int32)) K X5 d3_23 rfl rfl ?_
  exact w3_24 K sep X5 o0 (1 : Int32) v5 o0 (show cells + 0 ≤ 0 by omega) (show slots + 0 ≤ 0 by omega) hf
theorem pn_3 : plainName "com/example/albatross/albatross/sim/LongQueue" = true := by first | (simp [plainName, overriddenIn]; done) | decide +kernel
theorem rm3 {l : Launch} {Z : State} {a0 : Array Value} {n0 : Nat} (hw : ∀ d ∈ tables_1, d.before a0 Z = true) (A : AH) (o0 : Nat) {q : AH} (hf : f3_0 A o0 = some q) :
    Met l own_D Z n0 (⟨"com/example/albatross/albatross/sim/LongQueue", "removeFirst", "()V"⟩ : MethodName) prog_41_method_5_code 1 none own_R3 [(.ref (n0 + o0))] A none q :=
  met (W := tables_1) (a0 := a0) (own := "com/example/albatross/albatross/sim/LongQueue") (nm := "removeFirst") (L0 := #[.val (.ref (n0 + o0))]) (plainFor_of_name pn_3) hw rfl rfl (fun m => by first | (simp [entryFrame, mkF, argsToLocals, Value.category]; done) | rfl) (fun p e s m below meth c T K X => w3_0 K (own_sep hw) X o0 (show 0 + 0 ≤ 0 by decide) (show 0 + 0 ≤ 0 by decide) hf)
/-! body 4: LongQueue.size()I -/
theorem d4_0 : decode prog_41_method_2_code 0 = .ok (.aload_n 0, 1) := by decide +kernel
theorem d4_1 : decode prog_41_method_2_code 1 = .ok (.getfield 13, 3) := by decide +kernel
theorem d4_4 : decode prog_41_method_2_code 4 = .ok (.ireturn, 1) := by decide +kernel
theorem pd_4 : parseMethodDescriptor "()I" = some ⟨[], some .int⟩ := by decide +kernel
abbrev own_R4 : Room := { frames := 0, cells := 0, slots := 0, locals := 0 }
def f4_0 (A : AH) (o0 : Nat) : Option (Int32 × AH) :=
  (asI (h_fget A 10 o0 1)).bind fun v1 =>
  some (v1, A)
set_option maxRecDepth 65536 in
set_option maxHeartbeats 4000000 in
theorem w4_0 (K : Cx p l e own_R4 s m meth c Z a0 tables_1 "com/example/albatross/albatross/sim/LongQueue" "size" prog_41_method_2_code 1 (some .int)) (sep : ∀ t, Sep Z (own_D t).2) (X : On p l e own_R4 s m args below meth c own_D Z n0 T A cells slots) (o0 : Nat) (hc : cells + 0 ≤ 0) (hs : slots + 0 ≤ 0) {q : Int32 × AH} (hf : f4_0 A o0 = some q) :
    Go p e below (T.setTop (mkF m 0 #[.val (.ref (n0 + o0))] [])) (Fini own_D Z n0 s own_R4 (some (.int q.1)) q.2) := by
  unfold f4_0 at hf
  refine i_aloadN (pc' := 1) K X d4_0 rfl rfl rfl ?_
  obtain ⟨v1, g1, hf⟩ := bs hf
  refine getfI (pc' := 4) K X (i := 17) rfl d4_1 (t := 10) (f := 1) (by decide) rfl g1 rfl (fun T1 X1 => ?_)
  cases hf
  exact retI K X1 (show cells ≤ 0 by omega) (show slots ≤ 0 by omega) d4_4
theorem pn_4 : plainName "com/example/albatross/albatross/sim/LongQueue" = true := by first | (simp [plainName, overriddenIn]; done) | decide +kernel
theorem rm4 {l : Launch} {Z : State} {a0 : Array Value} {n0 : Nat} (hw : ∀ d ∈ tables_1, d.before a0 Z = true) (A : AH) (o0 : Nat) {q : Int32 × AH} (hf : f4_0 A o0 = some q) :
    Met l own_D Z n0 (⟨"com/example/albatross/albatross/sim/LongQueue", "size", "()I"⟩ : MethodName) prog_41_method_2_code 1 (some .int) own_R4 [(.ref (n0 + o0))] A (some (.int q.1)) q.2 :=
  met (W := tables_1) (a0 := a0) (own := "com/example/albatross/albatross/sim/LongQueue") (nm := "size") (L0 := #[.val (.ref (n0 + o0))]) (plainFor_of_name pn_4) hw rfl rfl (fun m => by first | (simp [entryFrame, mkF, argsToLocals, Value.category]; done) | rfl) (fun p e s m below meth c T K X => w4_0 K (own_sep hw) X o0 (show 0 + 0 ≤ 0 by decide) (show 0 + 0 ≤ 0 by decide) hf)
/-! body 5: LongQueue.first()J -/
theorem d5_0 : decode prog_41_method_4_code 0 = .ok (.aload_n 0, 1) := by decide +kernel
theorem d5_1 : decode prog_41_method_4_code 1 = .ok (.getfield 7, 3) := by decide +kernel
theorem d5_4 : decode prog_41_method_4_code 4 = .ok (.aload_n 0, 1) := by decide +kernel
theorem d5_5 : decode prog_41_method_4_code 5 = .ok (.getfield 17, 3) := by decide +kernel
theorem d5_8 : decode prog_41_method_4_code 8 = .ok (.laload, 1) := by decide +kernel
theorem d5_9 : decode prog_41_method_4_code 9 = .ok (.lreturn, 1) := by decide +kernel
theorem pd_5 : parseMethodDescriptor "()J" = some ⟨[], some .long⟩ := by decide +kernel
abbrev own_R5 : Room := { frames := 0, cells := 0, slots := 0, locals := 0 }
def f5_0 (A : AH) (o0 : Nat) : Option (Int64 × AH) :=
  (asR (h_fget A 10 o0 0)).bind fun v1 =>
  (asI (h_fget A 10 o0 2)).bind fun v2 =>
  (asJ (h_aget A 3 v1 v2)).bind fun v3 =>
  some (v3, A)
set_option maxRecDepth 65536 in
set_option maxHeartbeats 4000000 in
theorem w5_0 (K : Cx p l e own_R5 s m meth c Z a0 tables_1 "com/example/albatross/albatross/sim/LongQueue" "first" prog_41_method_4_code 1 (some .long)) (sep : ∀ t, Sep Z (own_D t).2) (X : On p l e own_R5 s m args below meth c own_D Z n0 T A cells slots) (o0 : Nat) (hc : cells + 0 ≤ 0) (hs : slots + 0 ≤ 0) {q : Int64 × AH} (hf : f5_0 A o0 = some q) :
    Go p e below (T.setTop (mkF m 0 #[.val (.ref (n0 + o0))] [])) (Fini own_D Z n0 s own_R5 (some (.long q.1)) q.2) := by
  unfold f5_0 at hf
  refine i_aloadN (pc' := 1) K X d5_0 rfl rfl rfl ?_
  obtain ⟨v1, g1, hf⟩ := bs hf
  refine getfR (pc' := 4) K X (i := 10) rfl d5_1 (t := 10) (f := 0) (by decide) rfl g1 rfl (fun T1 X1 => ?_)
  refine i_aloadN (pc' := 5) K X1 d5_4 rfl rfl rfl ?_
  obtain ⟨v2, g2, hf⟩ := bs hf
  refine getfI (pc' := 8) K X1 (i := 19) rfl d5_5 (t := 10) (f := 2) (by decide) rfl g2 rfl (fun T2 X2 => ?_)
  obtain ⟨v3, g3, hf⟩ := bs hf
  refine ld3 (pc' := 9) K X2 g3 d5_8 rfl ?_
  cases hf
  exact retJ K X2 (show cells ≤ 0 by omega) (show slots ≤ 0 by omega) d5_9
theorem pn_5 : plainName "com/example/albatross/albatross/sim/LongQueue" = true := by first | (simp [plainName, overriddenIn]; done) | decide +kernel
theorem rm5 {l : Launch} {Z : State} {a0 : Array Value} {n0 : Nat} (hw : ∀ d ∈ tables_1, d.before a0 Z = true) (A : AH) (o0 : Nat) {q : Int64 × AH} (hf : f5_0 A o0 = some q) :
    Met l own_D Z n0 (⟨"com/example/albatross/albatross/sim/LongQueue", "first", "()J"⟩ : MethodName) prog_41_method_4_code 1 (some .long) own_R5 [(.ref (n0 + o0))] A (some (.long q.1)) q.2 :=
  met (W := tables_1) (a0 := a0) (own := "com/example/albatross/albatross/sim/LongQueue") (nm := "first") (L0 := #[.val (.ref (n0 + o0))]) (plainFor_of_name pn_5) hw rfl rfl (fun m => by first | (simp [entryFrame, mkF, argsToLocals, Value.category]; done) | rfl) (fun p e s m below meth c T K X => w5_0 K (own_sep hw) X o0 (show 0 + 0 ≤ 0 by decide) (show 0 + 0 ≤ 0 by decide) hf)
/-! body 6: LongQueue.isEmpty()Z -/
theorem d6_0 : decode prog_41_method_3_code 0 = .ok (.aload_n 0, 1) := by decide +kernel
theorem d6_1 : decode prog_41_method_3_code 1 = .ok (.getfield 13, 3) := by decide +kernel
theorem d6_4 : decode prog_41_method_3_code 4 = .ok (.ifCond .ne 7, 3) := by decide +kernel
theorem d6_7 : decode prog_41_method_3_code 7 = .ok (.iconst 1, 1) := by decide +kernel
theorem d6_8 : decode prog_41_method_3_code 8 = .ok (.goto 4, 3) := by decide +kernel
theorem d6_11 : decode prog_41_method_3_code 11 = .ok (.iconst 0, 1) := by decide +kernel
theorem d6_12 : decode prog_41_method_3_code 12 = .ok (.ireturn, 1) := by decide +kernel
theorem pd_6 : parseMethodDescriptor "()Z" = some ⟨[], some .boolean⟩ := by decide +kernel
abbrev own_R6 : Room := { frames := 0, cells := 0, slots := 0, locals := 0 }
def f6_12 (A : AH) (s0 : Int32) : Option (Int32 × AH) :=
  some ((nar .boolean s0), A)
set_option maxRecDepth 65536 in
set_option maxHeartbeats 4000000 in
theorem w6_12 (K : Cx p l e own_R6 s m meth c Z a0 tables_1 "com/example/albatross/albatross/sim/LongQueue" "isEmpty" prog_41_method_3_code 1 (some .boolean)) (sep : ∀ t, Sep Z (own_D t).2) (X : On p l e own_R6 s m args below meth c own_D Z n0 T A cells slots) (o0 : Nat) (s0 : Int32) (hc : cells + 0 ≤ 0) (hs : slots + 0 ≤ 0) {q : Int32 × AH} (hf : f6_12 A s0 = some q) :
    Go p e below (T.setTop (mkF m 12 #[.val (.ref (n0 + o0))] [(.int s0)])) (Fini own_D Z n0 s own_R6 (some (.int q.1)) q.2) := by
  unfold f6_12 at hf
  cases hf
  exact retB K (by simp) X (show cells ≤ 0 by omega) (show slots ≤ 0 by omega) d6_12
def f6_0 (A : AH) (o0 : Nat) : Option (Int32 × AH) :=
  (asI (h_fget A 10 o0 1)).bind fun v1 =>
  if v1 = (0 : Int32) then (f6_12 A (1 : Int32))
  else (f6_12 A (0 : Int32))
set_option maxRecDepth 65536 in
set_option maxHeartbeats 4000000 in
theorem w6_0 (K : Cx p l e own_R6 s m meth c Z a0 tables_1 "com/example/albatross/albatross/sim/LongQueue" "isEmpty" prog_41_method_3_code 1 (some .boolean)) (sep : ∀ t, Sep Z (own_D t).2) (X : On p l e own_R6 s m args below meth c own_D Z n0 T A cells slots) (o0 : Nat) (hc : cells + 0 ≤ 0) (hs : slots + 0 ≤ 0) {q : Int32 × AH} (hf : f6_0 A o0 = some q) :
    Go p e below (T.setTop (mkF m 0 #[.val (.ref (n0 + o0))] [])) (Fini own_D Z n0 s own_R6 (some (.int q.1)) q.2) := by
  unfold f6_0 at hf
  refine i_aloadN (pc' := 1) K X d6_0 rfl rfl rfl ?_
  obtain ⟨v1, g1, hf⟩ := bs hf
  refine getfI (pc' := 4) K X (i := 17) rfl d6_1 (t := 10) (f := 1) (by decide) rfl g1 rfl (fun T1 X1 => ?_)
  by_cases hc4 : v1 = (0 : Int32)
  · rw [if_pos hc4] at hf
    refine i_ifNo (pc' := 7) K X1 d6_4 rfl (teq hc4).2 ?_
    refine i_iconst (pc' := 8) (v := (1 : Int32)) K X1 d6_7 rfl rfl ?_
    refine i_goto (pc' := 12) K X1 d6_8 (by decide) (by decide) ?_
    exact w6_12 K sep X1 o0 (1 : Int32) (show cells + 0 ≤ 0 by omega) (show slots + 0 ≤ 0 by omega) hf
  · rw [if_neg hc4] at hf
    refine i_ifYes (pc' := 11) K X1 d6_4 (feq hc4).2 (by decide) (by decide) ?_
    refine i_iconst (pc' := 12) (v := (0 : Int32)) K X1 d6_11 rfl rfl ?_
    exact w6_12 K sep X1 o0 (0 : Int32) (show cells + 0 ≤ 0 by omega) (show slots + 0 ≤ 0 by omega) hf
theorem pn_6 : plainName "com/example/albatross/albatross/sim/LongQueue" = true := by first | (simp [plainName, overriddenIn]; done) | decide +kernel
theorem rm6 {l : Launch} {Z : State} {a0 : Array Value} {n0 : Nat} (hw : ∀ d ∈ tables_1, d.before a0 Z = true) (A : AH) (o0 : Nat) {q : Int32 × AH} (hf : f6_0 A o0 = some q) :
    Met l own_D Z n0 (⟨"com/example/albatross/albatross/sim/LongQueue", "isEmpty", "()Z"⟩ : MethodName) prog_41_method_3_code 1 (some .boolean) own_R6 [(.ref (n0 + o0))] A (some (.int q.1)) q.2 :=
  met (W := tables_1) (a0 := a0) (own := "com/example/albatross/albatross/sim/LongQueue") (nm := "isEmpty") (L0 := #[.val (.ref (n0 + o0))]) (plainFor_of_name pn_6) hw rfl rfl (fun m => by first | (simp [entryFrame, mkF, argsToLocals, Value.category]; done) | rfl) (fun p e s m below meth c T K X => w6_0 K (own_sep hw) X o0 (show 0 + 0 ≤ 0 by decide) (show 0 + 0 ≤ 0 by decide) hf)
def f0_188 (A : AH) (i11 : Int32) : Option (Int32 × AH) :=
  some ((nar .boolean i11), A)
set_option maxRecDepth 65536 in
set_option maxHeartbeats 4000000 in
theorem w0_188 (K : Cx p l e room_1 s m meth c Z a0 tables_1 "com/example/albatross/albatross/sim/LongQueueRemoveFirstPinLaw" "law" code maxLocals ret) (sep : ∀ t, Sep Z (own_D t).2) (X : On p l e room_1 s m args below meth c own_D Z n0 T A cells slots) (j0 : Int64) (j2 : Int64) (j4 : Int64) (i6 : Int32) (i7 : Int32) (i8 : Int32) (i9 : Int32) (o10 : Nat) (i11 : Int32) (hc : cells + 0 ≤ 16) (hs : slots + 0 ≤ 128) {q : Int32 × AH} (hf : f0_188 A i11 = some q) :
    Go p e below (T.setTop (mkF m 188 #[.val (.long j0), .second, .val (.long j2), .second, .val (.long j4), .second, .val (.int i6), .val (.int i7), .val (.int i8), .val (.int i9), .val (.ref (n0 + o10)), .val (.int i11)] [])) (Fini own_D Z n0 s room_1 (some (.int q.1)) q.2) := by
  unfold f0_188 at hf
  refine i_iload (pc' := 190) K X at_188 rfl rfl ?_
  cases hf
  exact retB K (by simp) X (show cells ≤ 16 by omega) (show slots ≤ 128 by omega) at_190
def f0_186 (A : AH) (s0 : Int32) : Option (Int32 × AH) :=
  f0_188 A s0
set_option maxRecDepth 65536 in
set_option maxHeartbeats 4000000 in
theorem w0_186 (K : Cx p l e room_1 s m meth c Z a0 tables_1 "com/example/albatross/albatross/sim/LongQueueRemoveFirstPinLaw" "law" code maxLocals ret) (sep : ∀ t, Sep Z (own_D t).2) (X : On p l e room_1 s m args below meth c own_D Z n0 T A cells slots) (j0 : Int64) (j2 : Int64) (j4 : Int64) (i6 : Int32) (i7 : Int32) (i8 : Int32) (i9 : Int32) (o10 : Nat) (i11 : Int32) (s0 : Int32) (hc : cells + 0 ≤ 16) (hs : slots + 0 ≤ 128) {q : Int32 × AH} (hf : f0_186 A s0 = some q) :
    Go p e below (T.setTop (mkF m 186 #[.val (.long j0), .second, .val (.long j2), .second, .val (.long j4), .second, .val (.int i6), .val (.int i7), .val (.int i8), .val (.int i9), .val (.ref (n0 + o10)), .val (.int i11)] [(.int s0)])) (Fini own_D Z n0 s room_1 (some (.int q.1)) q.2) := by
  unfold f0_186 at hf
  refine i_istore (pc' := 188) (Ls' := #[.val (.long j0), .second, .val (.long j2), .second, .val (.long j4), .second, .val (.int i6), .val (.int i7), .val (.int i8), .val (.int i9), .val (.ref (n0 + o10)), .val (.int s0)]) K X at_186 rfl rfl ?_
  exact w0_188 K sep X j0 j2 j4 i6 i7 i8 i9 o10 s0 (show cells + 0 ≤ 16 by omega) (show slots + 0 ≤ 128 by omega) hf
def f0_185 (A : AH)  : Option (Int32 × AH) :=
  f0_186 A (0 : Int32)
set_option maxRecDepth 65536 in
set_option maxHeartbeats 4000000 in
theorem w0_185 (K : Cx p l e room_1 s m meth c Z a0 tables_1 "com/example/albatross/albatross/sim/LongQueueRemoveFirstPinLaw" "law" code maxLocals ret) (sep : ∀ t, Sep Z (own_D t).2) (X : On p l e room_1 s m args below meth c own_D Z n0 T A cells slots) (j0 : Int64) (j2 : Int64) (j4 : Int64) (i6 : Int32) (i7 : Int32) (i8 : Int32) (i9 : Int32) (o10 : Nat) (i11 : Int32) (hc : cells + 0 ≤ 16) (hs : slots + 0 ≤ 128) {q : Int32 × AH} (hf : f0_185 A  = some q) :
    Go p e below (T.setTop (mkF m 185 #[.val (.long j0), .second, .val (.long j2), .second, .val (.long j4), .second, .val (.int i6), .val (.int i7), .val (.int i8), .val (.int i9), .val (.ref (n0 + o10)), .val (.int i11)] [])) (Fini own_D Z n0 s room_1 (some (.int q.1)) q.2) := by
  unfold f0_185 at hf
  refine i_iconst (pc' := 186) (v := (0 : Int32)) K X at_185 rfl rfl ?_
  exact w0_186 K sep X j0 j2 j4 i6 i7 i8 i9 o10 i11 (0 : Int32) (show cells + 0 ≤ 16 by omega) (show slots + 0 ≤ 128 by omega) hf
def f0_158 (A : AH) (j4 : Int64) (i7 : Int32) (o10 : Nat) (s0 : Int32) : Option (Int32 × AH) :=
  if i7 = (0 : Int32) then (f0_188 A s0)
  else (if s0 = (0 : Int32) then (f0_185 A )
  else ((h_isA A 10 o10).bind fun y2 =>
  (f5_0 A o10).bind fun q1 =>
  if q1.1 = j4 then (f0_186 q1.2 (1 : Int32))
  else (f0_185 q1.2 )))
set_option maxRecDepth 65536 in
set_option maxHeartbeats 4000000 in
theorem w0_158 (K : Cx p l e room_1 s m meth c Z a0 tables_1 "com/example/albatross/albatross/sim/LongQueueRemoveFirstPinLaw" "law" code maxLocals ret) (sep : ∀ t, Sep Z (own_D t).2) (X : On p l e room_1 s m args below meth c own_D Z n0 T A cells slots) (j0 : Int64) (j2 : Int64) (j4 : Int64) (i6 : Int32) (i7 : Int32) (i8 : Int32) (i9 : Int32) (o10 : Nat) (i11 : Int32) (s0 : Int32) (hc : cells + 0 ≤ 16) (hs : slots + 0 ≤ 128) {q : Int32 × AH} (hf : f0_158 A j4 i7 o10 s0 = some q) :
    Go p e below (T.setTop (mkF m 158 #[.val (.long j0), .second, .val (.long j2), .second, .val (.long j4), .second, .val (.int i6), .val (.int i7), .val (.int i8), .val (.int i9), .val (.ref (n0 + o10)), .val (.int i11)] [(.int s0)])) (Fini own_D Z n0 s room_1 (some (.int q.1)) q.2) := by
  unfold f0_158 at hf
  refine i_istore (pc' := 160) (Ls' := #[.val (.long j0), .second, .val (.long j2), .second, .val (.long j4), .second, .val (.int i6), .val (.int i7), .val (.int i8), .val (.int i9), .val (.ref (n0 + o10)), .val (.int s0)]) K X at_158 rfl rfl ?_
  refine i_iload (pc' := 162) K X at_160 rfl rfl ?_
  by_cases hc162 : i7 = (0 : Int32)
  · rw [if_pos hc162] at hf
    refine i_ifYes (pc' := 188) K X at_162 (teq hc162).1 (by decide) (by decide) ?_
    exact w0_188 K sep X j0 j2 j4 i6 i7 i8 i9 o10 s0 (show cells + 0 ≤ 16 by omega) (show slots + 0 ≤ 128 by omega) hf
  · rw [if_neg hc162] at hf
    refine i_ifNo (pc' := 165) K X at_162 rfl (feq hc162).1 ?_
    refine i_iload (pc' := 167) K X at_165 rfl rfl ?_
    by_cases hc167 : s0 = (0 : Int32)
    · rw [if_pos hc167] at hf
      refine i_ifYes (pc' := 185) K X at_167 (teq hc167).1 (by decide) (by decide) ?_
      exact w0_185 K sep X j0 j2 j4 i6 i7 i8 i9 o10 s0 (show cells + 0 ≤ 16 by omega) (show slots + 0 ≤ 128 by omega) hf
    · rw [if_neg hc167] at hf
      refine i_ifNo (pc' := 170) K X at_167 rfl (feq hc167).1 ?_
      refine i_aload (pc' := 172) K X at_170 rfl rfl rfl ?_
      obtain ⟨y2, g2, hf⟩ := bs hf
      obtain ⟨q1, g1, hf⟩ := bs hf
      refine callv (pc' := 175) (kc := cells) (ks := slots) (S' := [(.long q1.1)]) (st := []) K X (i1 := 31) rfl (i2 := 32) rfl (i5 := 34) (t := 10) rfl (i6 := 33) rfl (i3 := 2) rfl (i4 := 35) rfl (by decide) (by decide) g2 (rm5 (l := l) (n0 := n0) (K.2.2.2.2.2.2.2.2) A o10 g1) pd_5 rfl at_172 rfl rfl (by decide) (w := 0) (Nat.le_of_eq rfl) (by decide) (show cells + 0 ≤ 16 by omega) (show slots + 0 ≤ 128 by omega) rfl rfl rfl rfl (fun T1 X1 => ?_)
      refine i_lload (pc' := 177) K X1 at_175 rfl rfl ?_
      refine i_lcmp (pc' := 178) K X1 at_177 rfl ?_
      by_cases hc178 : q1.1 = j4
      · rw [if_pos hc178] at hf
        refine i_ifNo (pc' := 181) K X1 at_178 rfl (teq ((lw_eq _ _).mpr hc178)).2 ?_
        refine i_iconst (pc' := 182) (v := (1 : Int32)) K X1 at_181 rfl rfl ?_
        refine i_goto (pc' := 186) K X1 at_182 (by decide) (by decide) ?_
        exact w0_186 K sep X1 j0 j2 j4 i6 i7 i8 i9 o10 s0 (1 : Int32) (show cells + 0 ≤ 16 by omega) (show slots + 0 ≤ 128 by omega) hf
      · rw [if_neg hc178] at hf
        refine i_ifYes (pc' := 185) K X1 at_178 (feq (fun z => hc178 ((lw_eq _ _).mp z))).2 (by decide) (by decide) ?_
        exact w0_185 K sep X1 j0 j2 j4 i6 i7 i8 i9 o10 s0 (show cells + 0 ≤ 16 by omega) (show slots + 0 ≤ 128 by omega) hf
def f0_157 (A : AH) (j4 : Int64) (i7 : Int32) (o10 : Nat) : Option (Int32 × AH) :=
  f0_158 A j4 i7 o10 (0 : Int32)
set_option maxRecDepth 65536 in
set_option maxHeartbeats 4000000 in
theorem w0_157 (K : Cx p l e room_1 s m meth c Z a0 tables_1 "com/example/albatross/albatross/sim/LongQueueRemoveFirstPinLaw" "law" code maxLocals ret) (sep : ∀ t, Sep Z (own_D t).2) (X : On p l e room_1 s m args below meth c own_D Z n0 T A cells slots) (j0 : Int64) (j2 : Int64) (j4 : Int64) (i6 : Int32) (i7 : Int32) (i8 : Int32) (i9 : Int32) (o10 : Nat) (i11 : Int32) (hc : cells + 0 ≤ 16) (hs : slots + 0 ≤ 128) {q : Int32 × AH} (hf : f0_157 A j4 i7 o10 = some q) :
    Go p e below (T.setTop (mkF m 157 #[.val (.long j0), .second, .val (.long j2), .second, .val (.long j4), .second, .val (.int i6), .val (.int i7), .val (.int i8), .val (.int i9), .val (.ref (n0 + o10)), .val (.int i11)] [])) (Fini own_D Z n0 s room_1 (some (.int q.1)) q.2) := by
  unfold f0_157 at hf
  refine i_iconst (pc' := 158) (v := (0 : Int32)) K X at_157 rfl rfl ?_
  exact w0_158 K sep X j0 j2 j4 i6 i7 i8 i9 o10 i11 (0 : Int32) (show cells + 0 ≤ 16 by omega) (show slots + 0 ≤ 128 by omega) hf
def f0_150 (A : AH) (j4 : Int64) (i7 : Int32) (o10 : Nat) (s0 : Int32) (s1 : Int32) : Option (Int32 × AH) :=
  if s1 = s0 then (f0_158 A j4 i7 o10 (1 : Int32))
  else (f0_157 A j4 i7 o10)
set_option maxRecDepth 65536 in
set_option maxHeartbeats 4000000 in
theorem w0_150 (K : Cx p l e room_1 s m meth c Z a0 tables_1 "com/example/albatross/albatross/sim/LongQueueRemoveFirstPinLaw" "law" code maxLocals ret) (sep : ∀ t, Sep Z (own_D t).2) (X : On p l e room_1 s m args below meth c own_D Z n0 T A cells slots) (j0 : Int64) (j2 : Int64) (j4 : Int64) (i6 : Int32) (i7 : Int32) (i8 : Int32) (i9 : Int32) (o10 : Nat) (i11 : Int32) (s0 : Int32) (s1 : Int32) (hc : cells + 0 ≤ 16) (hs : slots + 0 ≤ 128) {q : Int32 × AH} (hf : f0_150 A j4 i7 o10 s0 s1 = some q) :
    Go p e below (T.setTop (mkF m 150 #[.val (.long j0), .second, .val (.long j2), .second, .val (.long j4), .second, .val (.int i6), .val (.int i7), .val (.int i8), .val (.int i9), .val (.ref (n0 + o10)), .val (.int i11)] [(.int s0), (.int s1)])) (Fini own_D Z n0 s room_1 (some (.int q.1)) q.2) := by
  unfold f0_150 at hf
  by_cases hc150 : s1 = s0
  · rw [if_pos hc150] at hf
    refine i_icmpNo (pc' := 153) K X at_150 rfl (teq hc150).2 ?_
    refine i_iconst (pc' := 154) (v := (1 : Int32)) K X at_153 rfl rfl ?_
    refine i_goto (pc' := 158) K X at_154 (by decide) (by decide) ?_
    exact w0_158 K sep X j0 j2 j4 i6 i7 i8 i9 o10 i11 (1 : Int32) (show cells + 0 ≤ 16 by omega) (show slots + 0 ≤ 128 by omega) hf
  · rw [if_neg hc150] at hf
    refine i_icmpYes (pc' := 157) K X at_150 (feq hc150).2 (by decide) (by decide) ?_
    exact w0_157 K sep X j0 j2 j4 i6 i7 i8 i9 o10 i11 (show cells + 0 ≤ 16 by omega) (show slots + 0 ≤ 128 by omega) hf
def f0_141 (A : AH) (j4 : Int64) (i7 : Int32) (o10 : Nat) (s0 : Int32) (s1 : Int32) : Option (Int32 × AH) :=
  if s0 = (2 : Int32) then (f0_150 A j4 i7 o10 (1 : Int32) s1)
  else (f0_150 A j4 i7 o10 (0 : Int32) s1)
set_option maxRecDepth 65536 in
set_option maxHeartbeats 4000000 in
theorem w0_141 (K : Cx p l e room_1 s m meth c Z a0 tables_1 "com/example/albatross/albatross/sim/LongQueueRemoveFirstPinLaw" "law" code maxLocals ret) (sep : ∀ t, Sep Z (own_D t).2) (X : On p l e room_1 s m args below meth c own_D Z n0 T A cells slots) (j0 : Int64) (j2 : Int64) (j4 : Int64) (i6 : Int32) (i7 : Int32) (i8 : Int32) (i9 : Int32) (o10 : Nat) (i11 : Int32) (s0 : Int32) (s1 : Int32) (hc : cells + 0 ≤ 16) (hs : slots + 0 ≤ 128) {q : Int32 × AH} (hf : f0_141 A j4 i7 o10 s0 s1 = some q) :
    Go p e below (T.setTop (mkF m 141 #[.val (.long j0), .second, .val (.long j2), .second, .val (.long j4), .second, .val (.int i6), .val (.int i7), .val (.int i8), .val (.int i9), .val (.ref (n0 + o10)), .val (.int i11)] [(.int s0), (.int s1)])) (Fini own_D Z n0 s room_1 (some (.int q.1)) q.2) := by
  unfold f0_141 at hf
  refine i_iconst (pc' := 142) (v := (2 : Int32)) K X at_141 rfl rfl ?_
  by_cases hc142 : s0 = (2 : Int32)
  · rw [if_pos hc142] at hf
    refine i_icmpNo (pc' := 145) K X at_142 rfl (teq hc142).2 ?_
    refine i_iconst (pc' := 146) (v := (1 : Int32)) K X at_145 rfl rfl ?_
    refine i_goto (pc' := 150) K X at_146 (by decide) (by decide) ?_
    exact w0_150 K sep X j0 j2 j4 i6 i7 i8 i9 o10 i11 (1 : Int32) s1 (show cells + 0 ≤ 16 by omega) (show slots + 0 ≤ 128 by omega) hf
  · rw [if_neg hc142] at hf
    refine i_icmpYes (pc' := 149) K X at_142 (feq hc142).2 (by decide) (by decide) ?_
    refine i_iconst (pc' := 150) (v := (0 : Int32)) K X at_149 rfl rfl ?_
    exact w0_150 K sep X j0 j2 j4 i6 i7 i8 i9 o10 i11 (0 : Int32) s1 (show cells + 0 ≤ 16 by omega) (show slots + 0 ≤ 128 by omega) hf
def f0_105 (A : AH) (j4 : Int64) (i7 : Int32) (i8 : Int32) (i9 : Int32) (o10 : Nat) (s0 : Int32) : Option (Int32 × AH) :=
  if i8 = (0 : Int32) then (f0_188 A s0)
  else ((h_isA A 10 o10).bind fun y2 =>
  (f3_0 A o10).bind fun A1 =>
  if s0 = (0 : Int32) then (f0_157 A1 j4 i7 o10)
  else ((h_isA A1 10 o10).bind fun y4 =>
  (f4_0 A1 o10).bind fun q3 =>
  if q3.1 = (i9 - (2 : Int32)) then ((h_isA q3.2 10 o10).bind fun y6 =>
  (f6_0 q3.2 o10).bind fun q5 =>
  f0_141 q5.2 j4 i7 o10 i9 q5.1)
  else (f0_157 q3.2 j4 i7 o10)))
set_option maxRecDepth 65536 in
set_option maxHeartbeats 4000000 in
theorem w0_105 (K : Cx p l e room_1 s m meth c Z a0 tables_1 "com/example/albatross/albatross/sim/LongQueueRemoveFirstPinLaw" "law" code maxLocals ret) (sep : ∀ t, Sep Z (own_D t).2) (X : On p l e room_1 s m args below meth c own_D Z n0 T A cells slots) (j0 : Int64) (j2 : Int64) (j4 : Int64) (i6 : Int32) (i7 : Int32) (i8 : Int32) (i9 : Int32) (o10 : Nat) (s0 : Int32) (hc : cells + 0 ≤ 16) (hs : slots + 0 ≤ 128) {q : Int32 × AH} (hf : f0_105 A j4 i7 i8 i9 o10 s0 = some q) :
    Go p e below (T.setTop (mkF m 105 #[.val (.long j0), .second, .val (.long j2), .second, .val (.long j4), .second, .val (.int i6), .val (.int i7), .val (.int i8), .val (.int i9), .val (.ref (n0 + o10)), .unset] [(.int s0)])) (Fini own_D Z n0 s room_1 (some (.int q.1)) q.2) := by
  unfold f0_105 at hf
  refine i_istore (pc' := 107) (Ls' := #[.val (.long j0), .second, .val (.long j2), .second, .val (.long j4), .second, .val (.int i6), .val (.int i7), .val (.int i8), .val (.int i9), .val (.ref (n0 + o10)), .val (.int s0)]) K X at_105 rfl rfl ?_
  refine i_iload (pc' := 109) K X at_107 rfl rfl ?_
  by_cases hc109 : i8 = (0 : Int32)
  · rw [if_pos hc109] at hf
    refine i_ifYes (pc' := 188) K X at_109 (teq hc109).1 (by decide) (by decide) ?_
    exact w0_188 K sep X j0 j2 j4 i6 i7 i8 i9 o10 s0 (show cells + 0 ≤ 16 by omega) (show slots + 0 ≤ 128 by omega) hf
  · rw [if_neg hc109] at hf
    refine i_ifNo (pc' := 112) K X at_109 rfl (feq hc109).1 ?_
    refine i_aload (pc' := 114) K X at_112 rfl rfl rfl ?_
    obtain ⟨y2, g2, hf⟩ := bs hf
    obtain ⟨A1, g1, hf⟩ := bs hf
    refine callv (pc' := 117) (kc := cells) (ks := slots) (S' := []) (st := []) K X (i1 := 21) rfl (i2 := 22) rfl (i5 := 24) (t := 10) rfl (i6 := 23) rfl (i3 := 2) rfl (i4 := 25) rfl (by decide) (by decide) g2 (rm3 (l := l) (n0 := n0) (K.2.2.2.2.2.2.2.2) A o10 g1) pd_3 rfl at_114 rfl rfl (by decide) (w := 0) (Nat.le_of_eq rfl) (by decide) (show cells + 0 ≤ 16 by omega) (show slots + 0 ≤ 128 by omega) rfl rfl rfl rfl (fun T1 X1 => ?_)
    refine i_iload (pc' := 119) K X1 at_117 rfl rfl ?_
    by_cases hc119 : s0 = (0 : Int32)
    · rw [if_pos hc119] at hf
      refine i_ifYes (pc' := 157) K X1 at_119 (teq hc119).1 (by decide) (by decide) ?_
      exact w0_157 K sep X1 j0 j2 j4 i6 i7 i8 i9 o10 s0 (show cells + 0 ≤ 16 by omega) (show slots + 0 ≤ 128 by omega) hf
    · rw [if_neg hc119] at hf
      refine i_ifNo (pc' := 122) K X1 at_119 rfl (feq hc119).1 ?_
      refine i_aload (pc' := 124) K X1 at_122 rfl rfl rfl ?_
      obtain ⟨y4, g4, hf⟩ := bs hf
      obtain ⟨q3, g3, hf⟩ := bs hf
      refine callv (pc' := 127) (kc := cells) (ks := slots) (S' := [(.int q3.1)]) (st := []) K X1 (i1 := 26) rfl (i2 := 27) rfl (i5 := 29) (t := 10) rfl (i6 := 28) rfl (i3 := 2) rfl (i4 := 30) rfl (by decide) (by decide) g4 (rm4 (l := l) (n0 := n0) (K.2.2.2.2.2.2.2.2) A1 o10 g3) pd_4 rfl at_124 rfl rfl (by decide) (w := 0) (Nat.le_of_eq rfl) (by decide) (show cells + 0 ≤ 16 by omega) (show slots + 0 ≤ 128 by omega) rfl rfl rfl rfl (fun T3 X3 => ?_)
      refine i_iload (pc' := 129) K X3 at_127 rfl rfl ?_
      refine i_iconst (pc' := 130) (v := (2 : Int32)) K X3 at_129 rfl rfl ?_
      refine i_isub (pc' := 131) K X3 at_130 rfl ?_
      by_cases hc131 : q3.1 = (i9 - (2 : Int32))
      · rw [if_pos hc131] at hf
        refine i_icmpNo (pc' := 134) K X3 at_131 rfl (teq hc131).2 ?_
        refine i_aload (pc' := 136) K X3 at_134 rfl rfl rfl ?_
        obtain ⟨y6, g6, hf⟩ := bs hf
        obtain ⟨q5, g5, hf⟩ := bs hf
        refine callv (pc' := 139) (kc := cells) (ks := slots) (S' := [(.int q5.1)]) (st := []) K X3 (i1 := 36) rfl (i2 := 37) rfl (i5 := 39) (t := 10) rfl (i6 := 38) rfl (i3 := 2) rfl (i4 := 40) rfl (by decide) (by decide) g6 (rm6 (l := l) (n0 := n0) (K.2.2.2.2.2.2.2.2) q3.2 o10 g5) pd_6 rfl at_136 rfl rfl (by decide) (w := 0) (Nat.le_of_eq rfl) (by decide) (show cells + 0 ≤ 16 by omega) (show slots + 0 ≤ 128 by omega) rfl rfl rfl rfl (fun T5 X5 => ?_)
        refine i_iload (pc' := 141) K X5 at_139 rfl rfl ?_
        exact w0_141 K sep X5 j0 j2 j4 i6 i7 i8 i9 o10 s0 i9 q5.1 (show cells + 0 ≤ 16 by omega) (show slots + 0 ≤ 128 by omega) hf
      · rw [if_neg hc131] at hf
        refine i_icmpYes (pc' := 157) K X3 at_131 (feq hc131).2 (by decide) (by decide) ?_
        exact w0_157 K sep X3 j0 j2 j4 i6 i7 i8 i9 o10 s0 (show cells + 0 ≤ 16 by omega) (show slots + 0 ≤ 128 by omega) hf
def f0_104 (A : AH) (j4 : Int64) (i7 : Int32) (i8 : Int32) (i9 : Int32) (o10 : Nat) : Option (Int32 × AH) :=
  f0_105 A j4 i7 i8 i9 o10 (0 : Int32)
set_option maxRecDepth 65536 in
set_option maxHeartbeats 4000000 in
theorem w0_104 (K : Cx p l e room_1 s m meth c Z a0 tables_1 "com/example/albatross/albatross/sim/LongQueueRemoveFirstPinLaw" "law" code maxLocals ret) (sep : ∀ t, Sep Z (own_D t).2) (X : On p l e room_1 s m args below meth c own_D Z n0 T A cells slots) (j0 : Int64) (j2 : Int64) (j4 : Int64) (i6 : Int32) (i7 : Int32) (i8 : Int32) (i9 : Int32) (o10 : Nat) (hc : cells + 0 ≤ 16) (hs : slots + 0 ≤ 128) {q : Int32 × AH} (hf : f0_104 A j4 i7 i8 i9 o10 = some q) :
    Go p e below (T.setTop (mkF m 104 #[.val (.long j0), .second, .val (.long j2), .second, .val (.long j4), .second, .val (.int i6), .val (.int i7), .val (.int i8), .val (.int i9), .val (.ref (n0 + o10)), .unset] [])) (Fini own_D Z n0 s room_1 (some (.int q.1)) q.2) := by
  unfold f0_104 at hf
  refine i_iconst (pc' := 105) (v := (0 : Int32)) K X at_104 rfl rfl ?_
  exact w0_105 K sep X j0 j2 j4 i6 i7 i8 i9 o10 (0 : Int32) (show cells + 0 ≤ 16 by omega) (show slots + 0 ≤ 128 by omega) hf
def f0_73 (A : AH) (j2 : Int64) (j4 : Int64) (i7 : Int32) (i8 : Int32) (i9 : Int32) (o10 : Nat) : Option (Int32 × AH) :=
  (h_isA A 10 o10).bind fun y2 =>
  (f3_0 A o10).bind fun A1 =>
  (h_isA A1 10 o10).bind fun y4 =>
  (f4_0 A1 o10).bind fun q3 =>
  if q3.1 = (i9 - (1 : Int32)) then ((h_isA q3.2 10 o10).bind fun y6 =>
  (f5_0 q3.2 o10).bind fun q5 =>
  if q5.1 = j2 then (f0_105 q5.2 j4 i7 i8 i9 o10 (1 : Int32))
  else (f0_104 q5.2 j4 i7 i8 i9 o10))
  else (f0_104 q3.2 j4 i7 i8 i9 o10)
set_option maxRecDepth 65536 in
set_option maxHeartbeats 4000000 in
theorem w0_73 (K : Cx p l e room_1 s m meth c Z a0 tables_1 "com/example/albatross/albatross/sim/LongQueueRemoveFirstPinLaw" "law" code maxLocals ret) (sep : ∀ t, Sep Z (own_D t).2) (X : On p l e room_1 s m args below meth c own_D Z n0 T A cells slots) (j0 : Int64) (j2 : Int64) (j4 : Int64) (i6 : Int32) (i7 : Int32) (i8 : Int32) (i9 : Int32) (o10 : Nat) (hc : cells + 0 ≤ 16) (hs : slots + 0 ≤ 128) {q : Int32 × AH} (hf : f0_73 A j2 j4 i7 i8 i9 o10 = some q) :
    Go p e below (T.setTop (mkF m 73 #[.val (.long j0), .second, .val (.long j2), .second, .val (.long j4), .second, .val (.int i6), .val (.int i7), .val (.int i8), .val (.int i9), .val (.ref (n0 + o10)), .unset] [])) (Fini own_D Z n0 s room_1 (some (.int q.1)) q.2) := by
  unfold f0_73 at hf
  refine i_aload (pc' := 75) K X at_73 rfl rfl rfl ?_
  obtain ⟨y2, g2, hf⟩ := bs hf
  obtain ⟨A1, g1, hf⟩ := bs hf
  refine callv (pc' := 78) (kc := cells) (ks := slots) (S' := []) (st := []) K X (i1 := 21) rfl (i2 := 22) rfl (i5 := 24) (t := 10) rfl (i6 := 23) rfl (i3 := 2) rfl (i4 := 25) rfl (by decide) (by decide) g2 (rm3 (l := l) (n0 := n0) (K.2.2.2.2.2.2.2.2) A o10 g1) pd_3 rfl at_75 rfl rfl (by decide) (w := 0) (Nat.le_of_eq rfl) (by decide) (show cells + 0 ≤ 16 by omega) (show slots + 0 ≤ 128 by omega) rfl rfl rfl rfl (fun T1 X1 => ?_)
  refine i_aload (pc' := 80) K X1 at_78 rfl rfl rfl ?_
  obtain ⟨y4, g4, hf⟩ := bs hf
  obtain ⟨q3, g3, hf⟩ := bs hf
  refine callv (pc' := 83) (kc := cells) (ks := slots) (S' := [(.int q3.1)]) (st := []) K X1 (i1 := 26) rfl (i2 := 27) rfl (i5 := 29) (t := 10) rfl (i6 := 28) rfl (i3 := 2) rfl (i4 := 30) rfl (by decide) (by decide) g4 (rm4 (l := l) (n0 := n0) (K.2.2.2.2.2.2.2.2) A1 o10 g3) pd_4 rfl at_80 rfl rfl (by decide) (w := 0) (Nat.le_of_eq rfl) (by decide) (show cells + 0 ≤ 16 by omega) (show slots + 0 ≤ 128 by omega) rfl rfl rfl rfl (fun T3 X3 => ?_)
  refine i_iload (pc' := 85) K X3 at_83 rfl rfl ?_
  refine i_iconst (pc' := 86) (v := (1 : Int32)) K X3 at_85 rfl rfl ?_
  refine i_isub (pc' := 87) K X3 at_86 rfl ?_
  by_cases hc87 : q3.1 = (i9 - (1 : Int32))
  · rw [if_pos hc87] at hf
    refine i_icmpNo (pc' := 90) K X3 at_87 rfl (teq hc87).2 ?_
    refine i_aload (pc' := 92) K X3 at_90 rfl rfl rfl ?_
    obtain ⟨y6, g6, hf⟩ := bs hf
    obtain ⟨q5, g5, hf⟩ := bs hf
    refine callv (pc' := 95) (kc := cells) (ks := slots) (S' := [(.long q5.1)]) (st := []) K X3 (i1 := 31) rfl (i2 := 32) rfl (i5 := 34) (t := 10) rfl (i6 := 33) rfl (i3 := 2) rfl (i4 := 35) rfl (by decide) (by decide) g6 (rm5 (l := l) (n0 := n0) (K.2.2.2.2.2.2.2.2) q3.2 o10 g5) pd_5 rfl at_92 rfl rfl (by decide) (w := 0) (Nat.le_of_eq rfl) (by decide) (show cells + 0 ≤ 16 by omega) (show slots + 0 ≤ 128 by omega) rfl rfl rfl rfl (fun T5 X5 => ?_)
    refine i_lloadN (pc' := 96) K X5 at_95 rfl rfl ?_
    refine i_lcmp (pc' := 97) K X5 at_96 rfl ?_
    by_cases hc97 : q5.1 = j2
    · rw [if_pos hc97] at hf
      refine i_ifNo (pc' := 100) K X5 at_97 rfl (teq ((lw_eq _ _).mpr hc97)).2 ?_
      refine i_iconst (pc' := 101) (v := (1 : Int32)) K X5 at_100 rfl rfl ?_
      refine i_goto (pc' := 105) K X5 at_101 (by decide) (by decide) ?_
      exact w0_105 K sep X5 j0 j2 j4 i6 i7 i8 i9 o10 (1 : Int32) (show cells + 0 ≤ 16 by omega) (show slots + 0 ≤ 128 by omega) hf
    · rw [if_neg hc97] at hf
      refine i_ifYes (pc' := 104) K X5 at_97 (feq (fun z => hc97 ((lw_eq _ _).mp z))).2 (by decide) (by decide) ?_
      exact w0_104 K sep X5 j0 j2 j4 i6 i7 i8 i9 o10 (show cells + 0 ≤ 16 by omega) (show slots + 0 ≤ 128 by omega) hf
  · rw [if_neg hc87] at hf
    refine i_icmpYes (pc' := 104) K X3 at_87 (feq hc87).2 (by decide) (by decide) ?_
    exact w0_104 K sep X3 j0 j2 j4 i6 i7 i8 i9 o10 (show cells + 0 ≤ 16 by omega) (show slots + 0 ≤ 128 by omega) hf
def f0_38 (A : AH) (j0 : Int64) (j2 : Int64) (j4 : Int64) (i7 : Int32) (i8 : Int32) (s0 : Int32) : Option (Int32 × AH) :=
  (h_onew A 10 own_ds10).bind fun q1 =>
  (f1_0 q1.2 q1.1).bind fun A2 =>
  (h_isA A2 10 q1.1).bind fun y4 =>
  (f2_0 A2 q1.1 j0).bind fun A3 =>
  (h_isA A3 10 q1.1).bind fun y6 =>
  (f2_0 A3 q1.1 j2).bind fun A5 =>
  if i7 = (0 : Int32) then (f0_73 A5 j2 j4 i7 i8 s0 q1.1)
  else ((h_isA A5 10 q1.1).bind fun y8 =>
  (f2_0 A5 q1.1 j4).bind fun A7 =>
  f0_73 A7 j2 j4 i7 i8 s0 q1.1)
set_option maxRecDepth 65536 in
set_option maxHeartbeats 4000000 in
theorem w0_38 (K : Cx p l e room_1 s m meth c Z a0 tables_1 "com/example/albatross/albatross/sim/LongQueueRemoveFirstPinLaw" "law" code maxLocals ret) (sep : ∀ t, Sep Z (own_D t).2) (X : On p l e room_1 s m args below meth c own_D Z n0 T A cells slots) (j0 : Int64) (j2 : Int64) (j4 : Int64) (i6 : Int32) (i7 : Int32) (i8 : Int32) (s0 : Int32) (hc : cells + 2 ≤ 16) (hs : slots + 19 ≤ 128) {q : Int32 × AH} (hf : f0_38 A j0 j2 j4 i7 i8 s0 = some q) :
    Go p e below (T.setTop (mkF m 38 #[.val (.long j0), .second, .val (.long j2), .second, .val (.long j4), .second, .val (.int i6), .val (.int i7), .val (.int i8), .unset, .unset, .unset] [(.int s0)])) (Fini own_D Z n0 s room_1 (some (.int q.1)) q.2) := by
  unfold f0_38 at hf
  refine i_istore (pc' := 40) (Ls' := #[.val (.long j0), .second, .val (.long j2), .second, .val (.long j4), .second, .val (.int i6), .val (.int i7), .val (.int i8), .val (.int s0), .unset, .unset]) K X at_38 rfl rfl ?_
  obtain ⟨q1, g1, hf⟩ := bs hf
  refine newo (pc' := 43) K X (i1 := 0) rfl (i2 := 1) rfl (i3 := 2) rfl at_40 (show cells + 1 ≤ 16 by omega) (show slots + 3 ≤ 128 by omega) (t := 10) (by decide) (own_dsL10 K) g1 rfl (fun T1 X1 => ?_)
  refine i_dup (pc' := 44) K X1 at_43 rfl rfl ?_
  obtain ⟨A2, g2, hf⟩ := bs hf
  refine calli (pc' := 47) (kc := cells + 2) (ks := slots + 19) (st := [(.ref (n0 + q1.1))]) K X1 (i1 := 3) rfl (i2 := 4) rfl (i3 := 2) rfl (i4 := 5) rfl rfl (by decide) (rm1 (l := l) (n0 := n0) (K.2.2.2.2.2.2.2.2) q1.2 q1.1 g2) pd_1 rfl at_44 rfl rfl (by decide) (w := 1) (Nat.le_of_eq rfl) (by decide) (show cells + 1 + 1 ≤ 16 by omega) (show slots + 3 + 16 ≤ 128 by omega) rfl rfl rfl (fun T2 X2 => ?_)
  refine i_astore (pc' := 49) (Ls' := #[.val (.long j0), .second, .val (.long j2), .second, .val (.long j4), .second, .val (.int i6), .val (.int i7), .val (.int i8), .val (.int s0), .val (.ref (n0 + q1.1)), .unset]) K X2 at_47 rfl rfl rfl ?_
  refine i_aload (pc' := 51) K X2 at_49 rfl rfl rfl ?_
  refine i_lloadN (pc' := 52) K X2 at_51 rfl rfl ?_
  obtain ⟨y4, g4, hf⟩ := bs hf
  obtain ⟨A3, g3, hf⟩ := bs hf
  refine callv (pc' := 55) (kc := cells + 2) (ks := slots + 19) (S' := []) (st := []) K X2 (i1 := 12) rfl (i2 := 13) rfl (i5 := 15) (t := 10) rfl (i6 := 14) rfl (i3 := 2) rfl (i4 := 16) rfl (by decide) (by decide) g4 (rm2 (l := l) (n0 := n0) (K.2.2.2.2.2.2.2.2) A2 q1.1 j0 g3) pd_2 rfl at_52 rfl rfl (by decide) (w := 0) (Nat.le_of_eq rfl) (by decide) (show cells + 2 + 0 ≤ 16 by omega) (show slots + 19 + 0 ≤ 128 by omega) rfl rfl rfl rfl (fun T3 X3 => ?_)
  refine i_aload (pc' := 57) K X3 at_55 rfl rfl rfl ?_
  refine i_lloadN (pc' := 58) K X3 at_57 rfl rfl ?_
  obtain ⟨y6, g6, hf⟩ := bs hf
  obtain ⟨A5, g5, hf⟩ := bs hf
  refine callv (pc' := 61) (kc := cells + 2) (ks := slots + 19) (S' := []) (st := []) K X3 (i1 := 12) rfl (i2 := 13) rfl (i5 := 15) (t := 10) rfl (i6 := 14) rfl (i3 := 2) rfl (i4 := 16) rfl (by decide) (by decide) g6 (rm2 (l := l) (n0 := n0) (K.2.2.2.2.2.2.2.2) A3 q1.1 j2 g5) pd_2 rfl at_58 rfl rfl (by decide) (w := 0) (Nat.le_of_eq rfl) (by decide) (show cells + 2 + 0 ≤ 16 by omega) (show slots + 19 + 0 ≤ 128 by omega) rfl rfl rfl rfl (fun T5 X5 => ?_)
  refine i_iload (pc' := 63) K X5 at_61 rfl rfl ?_
  by_cases hc63 : i7 = (0 : Int32)
  · rw [if_pos hc63] at hf
    refine i_ifYes (pc' := 73) K X5 at_63 (teq hc63).1 (by decide) (by decide) ?_
    exact w0_73 K sep X5 j0 j2 j4 i6 i7 i8 s0 q1.1 (show cells + 2 + 0 ≤ 16 by omega) (show slots + 19 + 0 ≤ 128 by omega) hf
  · rw [if_neg hc63] at hf
    refine i_ifNo (pc' := 66) K X5 at_63 rfl (feq hc63).1 ?_
    refine i_aload (pc' := 68) K X5 at_66 rfl rfl rfl ?_
    refine i_lload (pc' := 70) K X5 at_68 rfl rfl ?_
    obtain ⟨y8, g8, hf⟩ := bs hf
    obtain ⟨A7, g7, hf⟩ := bs hf
    refine callv (pc' := 73) (kc := cells + 2) (ks := slots + 19) (S' := []) (st := []) K X5 (i1 := 12) rfl (i2 := 13) rfl (i5 := 15) (t := 10) rfl (i6 := 14) rfl (i3 := 2) rfl (i4 := 16) rfl (by decide) (by decide) g8 (rm2 (l := l) (n0 := n0) (K.2.2.2.2.2.2.2.2) A5 q1.1 j4 g7) pd_2 rfl at_70 rfl rfl (by decide) (w := 0) (Nat.le_of_eq rfl) (by decide) (show cells + 2 + 0 ≤ 16 by omega) (show slots + 19 + 0 ≤ 128 by omega) rfl rfl rfl rfl (fun T7 X7 => ?_)
    exact w0_73 K sep X7 j0 j2 j4 i6 i7 i8 s0 q1.1 (show cells + 2 + 0 ≤ 16 by omega) (show slots + 19 + 0 ≤ 128 by omega) hf
def f0_26 (A : AH) (j0 : Int64) (j2 : Int64) (j4 : Int64) (i7 : Int32) (s0 : Int32) : Option (Int32 × AH) :=
  if i7 = (0 : Int32) then (f0_38 A j0 j2 j4 i7 s0 (2 : Int32))
  else (f0_38 A j0 j2 j4 i7 s0 (3 : Int32))
set_option maxRecDepth 65536 in
set_option maxHeartbeats 4000000 in
theorem w0_26 (K : Cx p l e room_1 s m meth c Z a0 tables_1 "com/example/albatross/albatross/sim/LongQueueRemoveFirstPinLaw" "law" code maxLocals ret) (sep : ∀ t, Sep Z (own_D t).2) (X : On p l e room_1 s m args below meth c own_D Z n0 T A cells slots) (j0 : Int64) (j2 : Int64) (j4 : Int64) (i6 : Int32) (i7 : Int32) (s0 : Int32) (hc : cells + 2 ≤ 16) (hs : slots + 19 ≤ 128) {q : Int32 × AH} (hf : f0_26 A j0 j2 j4 i7 s0 = some q) :
    Go p e below (T.setTop (mkF m 26 #[.val (.long j0), .second, .val (.long j2), .second, .val (.long j4), .second, .val (.int i6), .val (.int i7), .unset, .unset, .unset, .unset] [(.int s0)])) (Fini own_D Z n0 s room_1 (some (.int q.1)) q.2) := by
  unfold f0_26 at hf
  refine i_istore (pc' := 28) (Ls' := #[.val (.long j0), .second, .val (.long j2), .second, .val (.long j4), .second, .val (.int i6), .val (.int i7), .val (.int s0), .unset, .unset, .unset]) K X at_26 rfl rfl ?_
  refine i_iload (pc' := 30) K X at_28 rfl rfl ?_
  by_cases hc30 : i7 = (0 : Int32)
  · rw [if_pos hc30] at hf
    refine i_ifYes (pc' := 37) K X at_30 (teq hc30).1 (by decide) (by decide) ?_
    refine i_iconst (pc' := 38) (v := (2 : Int32)) K X at_37 rfl rfl ?_
    exact w0_38 K sep X j0 j2 j4 i6 i7 s0 (2 : Int32) (show cells + 2 ≤ 16 by omega) (show slots + 19 ≤ 128 by omega) hf
  · rw [if_neg hc30] at hf
    refine i_ifNo (pc' := 33) K X at_30 rfl (feq hc30).1 ?_
    refine i_iconst (pc' := 34) (v := (3 : Int32)) K X at_33 rfl rfl ?_
    refine i_goto (pc' := 38) K X at_34 (by decide) (by decide) ?_
    exact w0_38 K sep X j0 j2 j4 i6 i7 s0 (3 : Int32) (show cells + 2 ≤ 16 by omega) (show slots + 19 ≤ 128 by omega) hf
def f0_12 (A : AH) (j0 : Int64) (j2 : Int64) (j4 : Int64) (i6 : Int32) (s0 : Int32) : Option (Int32 × AH) :=
  if (i6 &&& (2 : Int32)) = (0 : Int32) then (f0_26 A j0 j2 j4 s0 (0 : Int32))
  else (f0_26 A j0 j2 j4 s0 (1 : Int32))
set_option maxRecDepth 65536 in
set_option maxHeartbeats 4000000 in
theorem w0_12 (K : Cx p l e room_1 s m meth c Z a0 tables_1 "com/example/albatross/albatross/sim/LongQueueRemoveFirstPinLaw" "law" code maxLocals ret) (sep : ∀ t, Sep Z (own_D t).2) (X : On p l e room_1 s m args below meth c own_D Z n0 T A cells slots) (j0 : Int64) (j2 : Int64) (j4 : Int64) (i6 : Int32) (s0 : Int32) (hc : cells + 2 ≤ 16) (hs : slots + 19 ≤ 128) {q : Int32 × AH} (hf : f0_12 A j0 j2 j4 i6 s0 = some q) :
    Go p e below (T.setTop (mkF m 12 #[.val (.long j0), .second, .val (.long j2), .second, .val (.long j4), .second, .val (.int i6), .unset, .unset, .unset, .unset, .unset] [(.int s0)])) (Fini own_D Z n0 s room_1 (some (.int q.1)) q.2) := by
  unfold f0_12 at hf
  refine i_istore (pc' := 14) (Ls' := #[.val (.long j0), .second, .val (.long j2), .second, .val (.long j4), .second, .val (.int i6), .val (.int s0), .unset, .unset, .unset, .unset]) K X at_12 rfl rfl ?_
  refine i_iload (pc' := 16) K X at_14 rfl rfl ?_
  refine i_iconst (pc' := 17) (v := (2 : Int32)) K X at_16 rfl rfl ?_
  refine i_iand (pc' := 18) K X at_17 rfl ?_
  by_cases hc18 : (i6 &&& (2 : Int32)) = (0 : Int32)
  · rw [if_pos hc18] at hf
    refine i_ifYes (pc' := 25) K X at_18 (teq hc18).1 (by decide) (by decide) ?_
    refine i_iconst (pc' := 26) (v := (0 : Int32)) K X at_25 rfl rfl ?_
    exact w0_26 K sep X j0 j2 j4 i6 s0 (0 : Int32) (show cells + 2 ≤ 16 by omega) (show slots + 19 ≤ 128 by omega) hf
  · rw [if_neg hc18] at hf
    refine i_ifNo (pc' := 21) K X at_18 rfl (feq hc18).1 ?_
    refine i_iconst (pc' := 22) (v := (1 : Int32)) K X at_21 rfl rfl ?_
    refine i_goto (pc' := 26) K X at_22 (by decide) (by decide) ?_
    exact w0_26 K sep X j0 j2 j4 i6 s0 (1 : Int32) (show cells + 2 ≤ 16 by omega) (show slots + 19 ≤ 128 by omega) hf
def f0_0 (A : AH) (j0 : Int64) (j2 : Int64) (j4 : Int64) (i6 : Int32) : Option (Int32 × AH) :=
  if (i6 &&& (1 : Int32)) = (0 : Int32) then (f0_12 A j0 j2 j4 i6 (0 : Int32))
  else (f0_12 A j0 j2 j4 i6 (1 : Int32))
set_option maxRecDepth 65536 in
set_option maxHeartbeats 4000000 in
theorem w0_0 (K : Cx p l e room_1 s m meth c Z a0 tables_1 "com/example/albatross/albatross/sim/LongQueueRemoveFirstPinLaw" "law" code maxLocals ret) (sep : ∀ t, Sep Z (own_D t).2) (X : On p l e room_1 s m args below meth c own_D Z n0 T A cells slots) (j0 : Int64) (j2 : Int64) (j4 : Int64) (i6 : Int32) (hc : cells + 2 ≤ 16) (hs : slots + 19 ≤ 128) {q : Int32 × AH} (hf : f0_0 A j0 j2 j4 i6 = some q) :
    Go p e below (T.setTop (mkF m 0 #[.val (.long j0), .second, .val (.long j2), .second, .val (.long j4), .second, .val (.int i6), .unset, .unset, .unset, .unset, .unset] [])) (Fini own_D Z n0 s room_1 (some (.int q.1)) q.2) := by
  unfold f0_0 at hf
  refine i_iload (pc' := 2) K X at_0 rfl rfl ?_
  refine i_iconst (pc' := 3) (v := (1 : Int32)) K X at_2 rfl rfl ?_
  refine i_iand (pc' := 4) K X at_3 rfl ?_
  by_cases hc4 : (i6 &&& (1 : Int32)) = (0 : Int32)
  · rw [if_pos hc4] at hf
    refine i_ifYes (pc' := 11) K X at_4 (teq hc4).1 (by decide) (by decide) ?_
    refine i_iconst (pc' := 12) (v := (0 : Int32)) K X at_11 rfl rfl ?_
    exact w0_12 K sep X j0 j2 j4 i6 (0 : Int32) (show cells + 2 ≤ 16 by omega) (show slots + 19 ≤ 128 by omega) hf
  · rw [if_neg hc4] at hf
    refine i_ifNo (pc' := 7) K X at_4 rfl (feq hc4).1 ?_
    refine i_iconst (pc' := 8) (v := (1 : Int32)) K X at_7 rfl rfl ?_
    refine i_goto (pc' := 12) K X at_8 (by decide) (by decide) ?_
    exact w0_12 K sep X j0 j2 j4 i6 (1 : Int32) (show cells + 2 ≤ 16 by omega) (show slots + 19 ≤ 128 by omega) hf
theorem pn_0 : plainName "com/example/albatross/albatross/sim/LongQueueRemoveFirstPinLaw" = true := by first | (simp [plainName, overriddenIn]; done) | decide +kernel
theorem rm0 {l : Launch} {Z : State} {a0 : Array Value} {n0 : Nat} (hw : ∀ d ∈ tables_1, d.before a0 Z = true) (A : AH) (j0 : Int64) (j2 : Int64) (j4 : Int64) (i6 : Int32) {q : Int32 × AH} (hf : f0_0 A j0 j2 j4 i6 = some q) :
    Met l own_D Z n0 x code maxLocals ret room_1 [(.long j0), (.long j2), (.long j4), (.int i6)] A (some (.int q.1)) q.2 :=
  met (W := tables_1) (a0 := a0) (own := "com/example/albatross/albatross/sim/LongQueueRemoveFirstPinLaw") (nm := "law") (L0 := #[.val (.long j0), .second, .val (.long j2), .second, .val (.long j4), .second, .val (.int i6), .unset, .unset, .unset, .unset, .unset]) (plainFor_of_name pn_0) hw rfl rfl (fun m => by first | (simp [entryFrame, mkF, argsToLocals, Value.category, maxLocals]; done) | rfl) (fun p e s m below meth c T K X => w0_0 K (own_sep hw) X j0 j2 j4 i6 (show 0 + 2 ≤ 16 by decide) (show 0 + 19 ≤ 128 by decide) hf)
end OwnWalk
/-! the plain law -/
def own_S (sz hd : Int32) (x y z : Int64) : AH := [(10, [.ref 1, .int sz, .int hd]), (3, [.long x, .long y, .long z, .long 0, .long 0, .long 0, .long 0, .long 0, .long 0, .long 0, .long 0, .long 0, .long 0, .long 0, .long 0, .long 0])]
theorem own_is (s h : Int32) (x y z : Int64) : h_isA (own_S s h x y z) 10 0 = some () := rfl
theorem own_sz (s h : Int32) (x y z : Int64) : f4_0 (own_S s h x y z) 0 = some (s, own_S s h x y z) := rfl
theorem own_l (x y z : Int64) : (List.length ([.long x, .long y, .long z, .long 0, .long 0, .long 0, .long 0, .long 0, .long 0, .long 0, .long 0, .long 0, .long 0, .long 0, .long 0, .long 0] : List Value)).toInt32 = 16 := rfl
theorem own_ln (s h : Int32) (x y z : Int64) : h_alen (own_S s h x y z) 3 1 = some 16 := rfl
theorem own_g0 (s h : Int32) (x y z : Int64) : h_fget (own_S s h x y z) 10 0 0 = some (.ref 1) := rfl
theorem own_g1 (s h : Int32) (x y z : Int64) : h_fget (own_S s h x y z) 10 0 1 = some (.int s) := rfl
theorem own_g2 (s h : Int32) (x y z : Int64) : h_fget (own_S s h x y z) 10 0 2 = some (.int h) := rfl
theorem own_s1 (s h s' : Int32) (x y z : Int64) : h_fset (own_S s h x y z) 10 0 1 (.int s') = some (own_S s' h x y z) := rfl
theorem own_s2 (s h h' : Int32) (x y z : Int64) : h_fset (own_S s h x y z) 10 0 2 (.int h') = some (own_S s h' x y z) := rfl
theorem own_rm (s h h' : Int32) (x y z : Int64) (e : (h + 1) &&& (16 - 1) = h') : f3_0 (own_S s h x y z) 0 = some (own_S (s - 1) h' x y z) := by
  unfold f3_0 f3_24
  simp only [own_g0, own_g1, own_g2, own_ln, own_s1, own_s2, asI, asR, Option.bind_some, e]
theorem own_m0 (s : Int32) (x y z : Int64) : f3_0 (own_S s 0 x y z) 0 = some (own_S (s - 1) 1 x y z) := own_rm s 0 1 x y z (by decide)
theorem own_m1 (s : Int32) (x y z : Int64) : f3_0 (own_S s 1 x y z) 0 = some (own_S (s - 1) 2 x y z) := own_rm s 1 2 x y z (by decide)
theorem own_f1 (s : Int32) (x y z : Int64) : f5_0 (own_S s 1 x y z) 0 = some (y, own_S s 1 x y z) := rfl
theorem own_f2 (s : Int32) (x y z : Int64) : f5_0 (own_S s 2 x y z) 0 = some (z, own_S s 2 x y z) := rfl
theorem own_add (s s' : Int32) (x y z v x' y' z' : Int64) (e0 : s ≠ 16) (e1 : h_aset (own_S s 0 x y z) 3 1 ((0 + s) &&& (16 - 1)) (.long v) = some (own_S s 0 x' y' z')) (e2 : s + 1 = s') : f2_0 (own_S s 0 x y z) 0 v = some (own_S s' 0 x' y' z') := by
  unfold f2_0 f2_92
  simp only [own_g0, own_g1, own_g2, own_ln, own_s1, own_s2, asI, asR, Option.bind_some, e0, if_false, e1, e2]
theorem own_start : (h_onew [] 10 own_ds10) = some (0, [(10, [.null, .int 0, .int 0])]) := rfl
theorem own_init : f1_0 [(10, [.null, .int 0, .int 0])] 0 = some (own_S 0 0 0 0 0) := rfl
theorem own_x0 (a : Int64) : f2_0 (own_S 0 0 0 0 0) 0 a = some (own_S 1 0 a 0 0) := own_add 0 1 0 0 0 a a 0 0 (by decide) (by rw [show ((0 : Int32) + 0) &&& (16 - 1) = 0 by decide]; rfl) (by decide)
theorem own_x1 (a b : Int64) : f2_0 (own_S 1 0 a 0 0) 0 b = some (own_S 2 0 a b 0) := own_add 1 2 a 0 0 b a b 0 (by decide) (by rw [show ((0 : Int32) + 1) &&& (16 - 1) = 1 by decide]; rfl) (by decide)
theorem own_x2 (a b c : Int64) : f2_0 (own_S 2 0 a b 0) 0 c = some (own_S 3 0 a b c) := own_add 2 3 a b 0 c a b c (by decide) (by rw [show ((0 : Int32) + 2) &&& (16 - 1) = 2 by decide]; rfl) (by decide)
theorem own_a2 (a b c : Int64) (i8 s0 : Int32) : f0_38 [] a b c 0 i8 s0 = f0_73 (own_S 2 0 a b 0) b c 0 i8 s0 0 := by
  unfold f0_38
  simp only [own_start, Option.bind_some, own_init, own_is, own_x0, own_x1, if_true]
theorem own_a3 (a b c : Int64) (i8 s0 : Int32) : f0_38 [] a b c 1 i8 s0 = f0_73 (own_S 3 0 a b c) b c 1 i8 s0 0 := by
  unfold f0_38
  simp only [own_start, Option.bind_some, own_init, own_is, own_x0, own_x1, own_x2]
  rw [if_neg (by decide)]
theorem own_00 (a b c : Int64) : ∃ A, f0_38 [] a b c 0 0 2 = some (1, A) := by
  rw [own_a2]
  unfold f0_73
  simp only [own_is, own_m0, own_sz, own_f1, Option.bind_some]
  rw [if_pos (by decide), if_pos trivial]
  exact ⟨_, rfl⟩
theorem own_01 (a b c : Int64) : ∃ A, f0_38 [] a b c 0 1 2 = some (1, A) := by
  rw [own_a2]
  unfold f0_73
  simp only [own_is, own_m0, own_sz, own_f1, Option.bind_some]
  rw [if_pos (by decide), if_pos trivial]
  unfold f0_105
  rw [if_neg (by decide)]
  simp only [own_is, own_m1, own_sz, Option.bind_some]
  rw [if_neg (by decide), if_pos (by decide)]
  exact ⟨_, rfl⟩
theorem own_10 (a b c : Int64) : ∃ A, f0_38 [] a b c 1 0 3 = some (1, A) := by
  rw [own_a3]
  unfold f0_73
  simp only [own_is, own_m0, own_sz, own_f1, Option.bind_some]
  rw [if_pos (by decide), if_pos trivial]
  exact ⟨_, rfl⟩
theorem own_11 (a b c : Int64) : ∃ A, f0_38 [] a b c 1 1 3 = some (1, A) := by
  rw [own_a3]
  unfold f0_73
  simp only [own_is, own_m0, own_sz, own_f1, Option.bind_some]
  rw [if_pos (by decide), if_pos trivial]
  unfold f0_105
  rw [if_neg (by decide)]
  simp only [own_is, own_m1, own_sz, Option.bind_some]
  rw [if_neg (by decide), if_pos (by decide)]
  have e : f6_0 (own_S (3 - 1 - 1) 2 a b c) 0 = some (0, own_S (3 - 1 - 1) 2 a b c) := rfl
  rw [e]
  simp only [Option.bind_some]
  unfold f0_141 f0_150 f0_158
  rw [if_neg (by decide), if_pos rfl, if_neg (by decide), if_neg (by decide)]
  simp only [own_is, own_f2, Option.bind_some, if_true]
  exact ⟨_, rfl⟩
theorem own_plain (j0 j1 j2 : Int64) (i3 : Int32) : ∃ A, f0_0 [] j0 j1 j2 i3 = some (1, A) := by
  unfold f0_0 f0_12 f0_26
  by_cases h1 : (i3 &&& 1) = 0
  · rw [if_pos h1]
    by_cases h2 : (i3 &&& 2) = 0
    · rw [if_pos h2, if_pos rfl]; exact own_00 _ _ _
    · rw [if_neg h2, if_pos rfl]; exact own_01 _ _ _
  · rw [if_neg h1]
    by_cases h2 : (i3 &&& 2) = 0
    · rw [if_pos h2, if_neg (by decide)]; exact own_10 _ _ _
    · rw [if_neg h2, if_neg (by decide)]; exact own_11 _ _ _
set_option maxRecDepth 65536 in
set_option maxHeartbeats 4000000 in
theorem comes_1 {Post : Tables → Env → Array Value → State → Outcome → State → Prop} (hpost : ∀ tb e args s v u, (limb_1_1.after args s (.returned v) u = true ∧ limb_1_2.after args s (.returned v) u = true) → FrameEnd s (.returned v) u (Jvm.fieldLocs frame_1_writes args s ++ Jvm.arrayLocs frame_1_arrays args s ++ Jvm.staticLocs frame_1_statics s) 16 128 → Post tb e args s (.returned v) u) :
    ArmFor flags0 classFile x code maxLocals ret World_1 tables_1 room_1 Calls_1 rest_1 Pre_1 Post := by
  intro l hfl _ _ p e ha hc hk s m args below hf hA hF happ hP
  obtain ⟨hcalls, hrest, hpre⟩ := hP
  obtain ⟨-, -, -, hnamed, -, -, -, hat⟩ := (Spec.applies_iff hf).mp happ
  obtain ⟨hg, hn⟩ := and_e (Cond.before_iff.mp (show (Jvm.Cond.and given_1 narrow_1).before args s = true from hpre))
  obtain ⟨b0, hg⟩ := and_e hg
  obtain ⟨b1, hg⟩ := and_e hg
  obtain ⟨b2, hg⟩ := and_e hg
  obtain ⟨b3, hg⟩ := and_e hg
  have b4 := hg
  obtain ⟨w0, w1, w2, w3, rfl⟩ : ∃ w0 w1 w2 w3 : Value, args = #[w0, w1, w2, w3] := by
    have hs : args.size = 4 := by simpa [Cond.value, given_1] using b0
    obtain ⟨L⟩ := args
    match L, hs with
    | [w0, w1, w2, w3], _ => exact ⟨w0, w1, w2, w3, rfl⟩
  have hw := fun d (hd : d ∈ tables_1) => atoms_spec (ws := Jvm.Cond.code x code maxLocals ret :: tables_1) hat d (List.mem_cons_of_mem _ hd)
  obtain ⟨i0, ei0⟩ := isL_v b1
  obtain rfl : w0 = (.long i0) := Option.some.inj ei0
  obtain ⟨i1, ei1⟩ := isL_v b2
  obtain rfl : w1 = (.long i1) := Option.some.inj ei1
  obtain ⟨i2, ei2⟩ := isL_v b3
  obtain rfl : w2 = (.long i2) := Option.some.inj ei2
  obtain ⟨i3, ei3⟩ := is_v b4
  obtain rfl : w3 = (.int i3) := Option.some.inj ei3
  have RA : Rep own_D s s.heap.size s.heap [] := ⟨rfl, fun i t vs e => by simp at e⟩
  obtain ⟨AE, hv⟩ := own_plain i0 i1 i2 i3
  obtain ⟨n, o, h1, h2, h3, v, L, rfl, ⟨rfl, N, -⟩, hq⟩ := rm0 (l := l) (n0 := s.heap.size) hw [] i0 i1 i2 i3 hv tables_1 s.heap RA p e ha hc hk s m _ below hf ((Spec.applies_iff_loose hf).mp happ).1 ⟨rfl, State.Warmed39.refl s, rfl⟩ trivial
  refine ⟨n, _, h1, h2, h3, hpost _ _ _ _ _ _ ⟨Cond.after_iff.mpr rfl, Cond.after_iff.mpr (eq_i res_at (Term.int_eval (1)) rfl)⟩ ⟨hq.1, hq.2.1, (hq.2.2.sift fun y hy => Or.inr (N y hy)).mono (by decide) (by decide)⟩⟩
theorem main_1_1 : Claimed_1_1 := comes_1 fun _ _ _ _ _ _ h hF => ⟨h.1, hF⟩
theorem main_1_2 : Claimed_1_2 := comes_1 fun _ _ _ _ _ _ h hF => ⟨h.2, hF⟩
end Jvm.Pilot.@@N@@
namespace Jvm.Pilot.@@N@@
open Jvm Jvm.ClassFile Sem Op Lib Jvm.Free Jvm.Stand Jvm.Pilot.@@N@@.Jvm.D
/-! MADE BY PROGRAM (witnessworld.py) out of the Statement's table words and the real class files: 11 classes; the members and pool entries that the words name. The judged class is class 1, her method 1. -/
namespace start1
open Jvm.ClassFile
def u (s : String) : CpInfo := .utf8 (stringToUtf16 s)
/-- a pool by its gaps: so many unusable entries, then the entry; so many at the end -/
def gap : Nat → List CpInfo → List CpInfo
  | 0, r => r
  | n + 1, r => .unusable :: gap n r
def poolList (es : List (Nat × CpInfo)) (last : Nat) : List CpInfo := es.foldr (fun e r => gap e.1 (e.2 :: r)) (gap last [])
def pool (es : List (Nat × CpInfo)) (last : Nat) : Array CpInfo := ⟨poolList es last⟩
def fileOf (pool : Array CpInfo) (this : Nat) (attrs : Array Attribute := #[]) (ms : Array MethodInfo := #[]) (fl : Nat := 33) (sup : Nat := 0) (ifs : Array Nat := #[]) (fds : Array FieldInfo := #[]) : ClassFile where
  minorVersion := 0
  majorVersion := 65
  constantPool := pool
  accessFlags := fl
  thisClass := this
  superClass := sup
  interfaces := ifs
  fields := fds
  methods := ms
  attributes := attrs
def plain (name : String) (sup : Option ClassId) : Class where
  name := name
  kind := .ordinary
  loader := none
  accessFlags := 33
  super := sup
  interfaces := #[]
  cf := none
  fields := #[]
  methods := #[]
  instanceTypes := #[]
  staticTypes := #[]
  resolved := #[]
  callSites := []
  init := .initialized
  statics := none
  mirror := none

def pool0 : Array CpInfo := pool [(5, u "<init>"), (0, u "()V"), (1, .class_ 10), (1, u "java/lang/Object")] 113

def k0c0 : Code := { maxStack := 0, maxLocals := 1, code := object_method_1_code, exceptionTable := #[], attributes := #[] }
def k0m0 : Method := { name := "<init>", desc := "()V", sig := { parameters := [], returnType := none }, accessFlags := 1, code := some k0c0 }
/-- java/lang/Object -/
def k0 : Class := { plain "java/lang/Object" none with
  accessFlags := 33
  interfaces := #[]
  cf := some (fileOf pool0 8 #[] #[{ accessFlags := 1, nameIndex := 5, descriptorIndex := 6, attributes := #[] }] 33 0 #[] #[])
  fields := #[]
  methods := #[k0m0]
  instanceTypes := #[]
  staticTypes := #[]
  resolved := Array.replicate 124 none
  statics := none }

def pool1 : Array CpInfo := pool [(2, .class_ 4), (0, .nameAndType 5 6), (0, u "java/lang/Object"), (0, u "<init>"), (0, u "()V"), (0, .class_ 8), (0, u "com/example/albatross/albatross/sim/LongQueue"), (0, .methodref 7 3), (0, .methodref 7 11), (0, .nameAndType 12 13), (0, u "add"), (0, u "(J)V"), (0, .methodref 7 15), (0, .nameAndType 16 6), (0, u "removeFirst"), (0, .methodref 7 18), (0, .nameAndType 19 20), (0, u "size"), (0, u "()I"), (0, .methodref 7 22), (0, .nameAndType 23 24), (0, u "first"), (0, u "()J"), (0, .methodref 7 26), (0, .nameAndType 27 28), (0, u "isEmpty"), (0, u "()Z"), (0, .class_ 30), (0, u "com/example/albatross/albatross/sim/LongQueueRemoveFirstPinLaw"), (2, u "law"), (0, u "(JJJI)Z")] 3

def k1m0 : Method := { name := "<init>", desc := "()V", sig := { parameters := [], returnType := none }, accessFlags := 1, code := none }
def k1c1 : Code := { maxStack := 4, maxLocals := 12, code := code, exceptionTable := #[], attributes := #[] }
def k1m1 : Method := { name := "law", desc := "(JJJI)Z", sig := { parameters := [.long, .long, .long, .int], returnType := some .boolean }, accessFlags := 9, code := some k1c1 }
/-- com/example/albatross/albatross/sim/LongQueueRemoveFirstPinLaw -/
def k1 : Class := { plain "com/example/albatross/albatross/sim/LongQueueRemoveFirstPinLaw" (some 0) with
  accessFlags := 49
  interfaces := #[]
  cf := some (fileOf pool1 29 #[] #[{ accessFlags := 1, nameIndex := 5, descriptorIndex := 6, attributes := #[] }, { accessFlags := 9, nameIndex := 33, descriptorIndex := 34, attributes := #[] }] 49 2 #[] #[])
  fields := #[]
  methods := #[k1m0, k1m1]
  instanceTypes := #[]
  staticTypes := #[]
  resolved := Array.replicate 38 none
  statics := none }

def pool2 : Array CpInfo := pool [(1, .methodref 2 3), (0, .class_ 4), (0, .nameAndType 5 6), (0, u "java/lang/Object"), (0, u "<init>"), (0, u "()V"), (0, .fieldref 8 9), (0, .class_ 10), (0, .nameAndType 11 12), (0, u "com/example/albatross/albatross/sim/LongQueue"), (0, u "items"), (0, u "[J"), (0, .fieldref 8 14), (0, .nameAndType 15 16), (0, u "size"), (0, u "I"), (0, .fieldref 8 18), (0, .nameAndType 19 16), (0, u "head"), (8, u "()I"), (0, u "isEmpty"), (0, u "()Z"), (1, u "first"), (0, u "()J"), (0, u "removeFirst"), (0, u "add"), (0, u "(J)V")] 2

def k2c0 : Code := { maxStack := 2, maxLocals := 1, code := prog_41_method_1_code, exceptionTable := #[], attributes := #[] }
def k2m0 : Method := { name := "<init>", desc := "()V", sig := { parameters := [], returnType := none }, accessFlags := 0, code := some k2c0 }
def k2c1 : Code := { maxStack := 1, maxLocals := 1, code := prog_41_method_2_code, exceptionTable := #[], attributes := #[] }
def k2m1 : Method := { name := "size", desc := "()I", sig := { parameters := [], returnType := some .int }, accessFlags := 0, code := some k2c1 }
def k2c2 : Code := { maxStack := 1, maxLocals := 1, code := prog_41_method_3_code, exceptionTable := #[], attributes := #[] }
def k2m2 : Method := { name := "isEmpty", desc := "()Z", sig := { parameters := [], returnType := some .boolean }, accessFlags := 0, code := some k2c2 }
def k2c3 : Code := { maxStack := 2, maxLocals := 1, code := prog_41_method_4_code, exceptionTable := #[], attributes := #[] }
def k2m3 : Method := { name := "first", desc := "()J", sig := { parameters := [], returnType := some .long }, accessFlags := 0, code := some k2c3 }
def k2c4 : Code := { maxStack := 4, maxLocals := 1, code := prog_41_method_5_code, exceptionTable := #[], attributes := #[] }
def k2m4 : Method := { name := "removeFirst", desc := "()V", sig := { parameters := [], returnType := none }, accessFlags := 0, code := some k2c4 }
def k2c5 : Code := { maxStack := 5, maxLocals := 5, code := prog_41_method_6_code, exceptionTable := #[], attributes := #[] }
def k2m5 : Method := { name := "add", desc := "(J)V", sig := { parameters := [.long], returnType := none }, accessFlags := 0, code := some k2c5 }
/-- com/example/albatross/albatross/sim/LongQueue -/
def k2 : Class := { plain "com/example/albatross/albatross/sim/LongQueue" (some 0) with
  accessFlags := 32
  interfaces := #[]
  cf := some (fileOf pool2 8 #[] #[{ accessFlags := 0, nameIndex := 5, descriptorIndex := 6, attributes := #[] }, { accessFlags := 0, nameIndex := 15, descriptorIndex := 28, attributes := #[] }, { accessFlags := 0, nameIndex := 29, descriptorIndex := 30, attributes := #[] }, { accessFlags := 0, nameIndex := 32, descriptorIndex := 33, attributes := #[] }, { accessFlags := 0, nameIndex := 34, descriptorIndex := 6, attributes := #[] }, { accessFlags := 0, nameIndex := 35, descriptorIndex := 36, attributes := #[] }] 32 2 #[] #[{ accessFlags := 2, nameIndex := 11, descriptorIndex := 12, attributes := #[] }, { accessFlags := 2, nameIndex := 19, descriptorIndex := 16, attributes := #[] }, { accessFlags := 2, nameIndex := 15, descriptorIndex := 16, attributes := #[] }])
  fields := #[{ name := "items", type := (.array .long), accessFlags := 2, slot := 0, constantValue := 0 }, { name := "head", type := .int, accessFlags := 2, slot := 1, constantValue := 0 }, { name := "size", type := .int, accessFlags := 2, slot := 2, constantValue := 0 }]
  methods := #[k2m0, k2m1, k2m2, k2m3, k2m4, k2m5]
  instanceTypes := #[(.array .long), .int, .int]
  staticTypes := #[]
  resolved := Array.replicate 39 none
  statics := none }

def pool3 : Array CpInfo := pool [(1, u "java/lang/Cloneable"), (0, .class_ 1), (0, u "java/lang/Object"), (0, .class_ 3)] 3

/-- java/lang/Cloneable -/
def k3 : Class := { plain "java/lang/Cloneable" (some 0) with
  accessFlags := 1537
  interfaces := #[]
  cf := some (fileOf pool3 2 #[] #[] 1537 4 #[] #[])
  fields := #[]
  methods := #[]
  instanceTypes := #[]
  staticTypes := #[]
  resolved := Array.replicate 8 none
  statics := none }

def pool4 : Array CpInfo := pool [(1, u "java/io/Serializable"), (0, .class_ 1), (0, u "java/lang/Object"), (0, .class_ 3)] 3

/-- java/io/Serializable -/
def k4 : Class := { plain "java/io/Serializable" (some 0) with
  accessFlags := 1537
  interfaces := #[]
  cf := some (fileOf pool4 2 #[] #[] 1537 4 #[] #[])
  fields := #[]
  methods := #[]
  instanceTypes := #[]
  staticTypes := #[]
  resolved := Array.replicate 8 none
  statics := none }

/-- the primitive byte -/
def k5 : Class := { plain "byte" none with kind := .primitive 'B', accessFlags := 0x411 }
/-- [B -/
def k6 : Class := { plain "[B" (some 0) with kind := .array 5 .byte, interfaces := #[3, 4], accessFlags := 1041 }

/-- the primitive int -/
def k7 : Class := { plain "int" none with kind := .primitive 'I', accessFlags := 0x411 }
/-- [I -/
def k8 : Class := { plain "[I" (some 0) with kind := .array 7 .int, interfaces := #[3, 4], accessFlags := 1041 }

/-- the primitive long -/
def k9 : Class := { plain "long" none with kind := .primitive 'J', accessFlags := 0x411 }
/-- [J -/
def k10 : Class := { plain "[J" (some 0) with kind := .array 9 .long, interfaces := #[3, 4], accessFlags := 1041 }

def heap : Heap := #[]
def classes : Array Class := #[k0, k1, k2, k3, k4, k5, k6, k7, k8, k9, k10]
def interned : List (Array UInt16 × Addr) := []
def slotsUsed : Nat := 0
def theMethod : MethodId := ⟨1, 1⟩
def args0 : Array Value := #[.long 5, .long 5, .long 5, .int 5]
def aboutOver (below : List Frame) : State where
  vm := { classes := classes, interned := interned.toArray }
  heap := heap
  slotsUsed := slotsUsed
  threads := #[{ frames := .invoking theMethod args0 :: below }]
def below0 : List Frame := [.native { method := ⟨0, 0⟩, args := #[] }]
def about1 : State := aboutOver below0
def p0 : Program := .bare "" "" ""
def e0 : Env := launch0.env 0 0 0
theorem w_frames : about1.frames = Frame.invoking theMethod args0 :: below0 := rfl
set_option maxRecDepth 65536 in
theorem w_args : argsFit about1.vm theMethod args0 = true := by decide +kernel
set_option maxRecDepth 65536 in
theorem w_heap : heapFits about1 = true := by decide +kernel
set_option maxRecDepth 65536 in
theorem w_runnable : about1.curStatus? = some .runnable := by decide +kernel
set_option maxRecDepth 65536 in
theorem w_alone : about1.alone = true := by decide +kernel
set_option maxRecDepth 65536 in
theorem w_named : about1.methodNamed? x = some theMethod := by decide +kernel
set_option maxRecDepth 65536 in
theorem w_hears : about1.hears theMethod below0 = true := by decide +kernel
set_option maxRecDepth 65536 in
theorem w_ripe : about1.ripe theMethod args0 below0 = true := by decide +kernel
theorem w_running : about1.status = .running := rfl
set_option maxRecDepth 65536 in
theorem w_room : about1.hasRoom e0.platform room_1 = true :=
  launch0.hasRoom_least _ room_1 (by decide +kernel) (by decide +kernel) (by decide +kernel) (by decide +kernel) (by decide +kernel) (by decide +kernel)
theorem allAtoms_all (ts : List Jvm.Cond) (a : Array Jvm.Value) (st : Jvm.State) : (allAtoms ts).before a st = ts.all (fun c => c.before a st) := by
  induction ts with
  | nil => rfl
  | cons c t ih =>
    show (Jvm.Cond.and c (allAtoms t)).before a st = _
    rw [Jvm.Cond.before_and, ih, List.all_cons]
def words1 : List Jvm.Cond := Jvm.Cond.code x code maxLocals ret :: tables_1
/-- a 'code' word, met by the world's own term for the bytes: nothing is compared byte by byte -/
theorem code_word {y : MethodName} {bytes : ByteArray} {mx : Nat} {rt : Option FieldType} {a : Array Value} {s : State} {m : MethodId} {meth : Method} {c : Code} (h1 : s.methodNamed? y = some m) (h2 : s.vm.method? m = some meth) (h3 : meth.code = some c) (h4 : c.code = bytes)
    (h5 : (c.maxLocals == mx && c.exceptionTable.isEmpty && decide (c.maxStack ≤ mostOperands) && decide (meth.sig.returnType = rt) && !meth.locks && decide (parseMethodDescriptor y.desc = some meth.sig)) = true) : (Jvm.Cond.code y bytes mx rt).before a s = true := by
  simp only [Bool.and_eq_true, beq_iff_eq, Bool.not_eq_true', decide_eq_true_eq] at h5
  obtain ⟨⟨⟨⟨⟨g1, g2⟩, g3⟩, g4⟩, g5⟩, g6⟩ := h5
  simp [Cond.before, Cond.holds, Cond.value, h1, h2, h3, h4, g1, g2, g3, g4, g5, g6]
def isCode : Jvm.Cond → Bool
  | .code _ _ _ _ => true
  | _ => false
theorem all_split {L : List Jvm.Cond} {P : Jvm.Cond → Bool} (h1 : L.all (fun c => isCode c || P c) = true) (h2 : ∀ c ∈ L.filter isCode, P c = true) : L.all P = true := by
  refine List.all_eq_true.mpr fun c hc => ?_
  have h := List.all_eq_true.mp h1 c hc
  rcases Bool.eq_false_or_eq_true (isCode c) with hi | hi
  · exact h2 c (List.mem_filter.mpr ⟨hc, hi⟩)
  · simpa [hi] using h
set_option maxRecDepth 65536 in
theorem w_c0 : (Jvm.Cond.code x code maxLocals ret).before args0 about1 = true := code_word (m := ⟨1, 1⟩) (meth := k1m1) (c := k1c1) (by decide +kernel) rfl rfl rfl (by decide +kernel)
set_option maxRecDepth 65536 in
theorem w_c1 : (Jvm.Cond.code ({ cls := "com/example/albatross/albatross/sim/LongQueue", name := "<init>", desc := "()V" } : Jvm.MethodName) prog_41_method_1_code (1 : Nat) (Option.none : Option Jvm.ClassFile.FieldType)).before args0 about1 = true := code_word (m := ⟨2, 0⟩) (meth := k2m0) (c := k2c0) (by decide +kernel) rfl rfl rfl (by decide +kernel)
set_option maxRecDepth 65536 in
theorem w_c2 : (Jvm.Cond.code ({ cls := "java/lang/Object", name := "<init>", desc := "()V" } : Jvm.MethodName) object_method_1_code (1 : Nat) (Option.none : Option Jvm.ClassFile.FieldType)).before args0 about1 = true := code_word (m := ⟨0, 0⟩) (meth := k0m0) (c := k0c0) (by decide +kernel) rfl rfl rfl (by decide +kernel)
set_option maxRecDepth 65536 in
theorem w_c3 : (Jvm.Cond.code ({ cls := "com/example/albatross/albatross/sim/LongQueue", name := "add", desc := "(J)V" } : Jvm.MethodName) prog_41_method_6_code (5 : Nat) (Option.none : Option Jvm.ClassFile.FieldType)).before args0 about1 = true := code_word (m := ⟨2, 5⟩) (meth := k2m5) (c := k2c5) (by decide +kernel) rfl rfl rfl (by decide +kernel)
set_option maxRecDepth 65536 in
theorem w_c4 : (Jvm.Cond.code ({ cls := "com/example/albatross/albatross/sim/LongQueue", name := "removeFirst", desc := "()V" } : Jvm.MethodName) prog_41_method_5_code (1 : Nat) (Option.none : Option Jvm.ClassFile.FieldType)).before args0 about1 = true := code_word (m := ⟨2, 4⟩) (meth := k2m4) (c := k2c4) (by decide +kernel) rfl rfl rfl (by decide +kernel)
set_option maxRecDepth 65536 in
theorem w_c5 : (Jvm.Cond.code ({ cls := "com/example/albatross/albatross/sim/LongQueue", name := "size", desc := "()I" } : Jvm.MethodName) prog_41_method_2_code (1 : Nat) (Option.some Jvm.ClassFile.FieldType.int)).before args0 about1 = true := code_word (m := ⟨2, 1⟩) (meth := k2m1) (c := k2c1) (by decide +kernel) rfl rfl rfl (by decide +kernel)
set_option maxRecDepth 65536 in
theorem w_c6 : (Jvm.Cond.code ({ cls := "com/example/albatross/albatross/sim/LongQueue", name := "first", desc := "()J" } : Jvm.MethodName) prog_41_method_4_code (1 : Nat) (Option.some Jvm.ClassFile.FieldType.long)).before args0 about1 = true := code_word (m := ⟨2, 3⟩) (meth := k2m3) (c := k2c3) (by decide +kernel) rfl rfl rfl (by decide +kernel)
set_option maxRecDepth 65536 in
theorem w_c7 : (Jvm.Cond.code ({ cls := "com/example/albatross/albatross/sim/LongQueue", name := "isEmpty", desc := "()Z" } : Jvm.MethodName) prog_41_method_3_code (1 : Nat) (Option.some Jvm.ClassFile.FieldType.boolean)).before args0 about1 = true := code_word (m := ⟨2, 2⟩) (meth := k2m2) (c := k2c2) (by decide +kernel) rfl rfl rfl (by decide +kernel)
def codes1 : List Jvm.Cond := [Jvm.Cond.code x code maxLocals ret, Jvm.Cond.code ({ cls := "com/example/albatross/albatross/sim/LongQueue", name := "<init>", desc := "()V" } : Jvm.MethodName) prog_41_method_1_code (1 : Nat) (Option.none : Option Jvm.ClassFile.FieldType), Jvm.Cond.code ({ cls := "java/lang/Object", name := "<init>", desc := "()V" } : Jvm.MethodName) object_method_1_code (1 : Nat) (Option.none : Option Jvm.ClassFile.FieldType), Jvm.Cond.code ({ cls := "com/example/albatross/albatross/sim/LongQueue", name := "add", desc := "(J)V" } : Jvm.MethodName) prog_41_method_6_code (5 : Nat) (Option.none : Option Jvm.ClassFile.FieldType), Jvm.Cond.code ({ cls := "com/example/albatross/albatross/sim/LongQueue", name := "removeFirst", desc := "()V" } : Jvm.MethodName) prog_41_method_5_code (1 : Nat) (Option.none : Option Jvm.ClassFile.FieldType), Jvm.Cond.code ({ cls := "com/example/albatross/albatross/sim/LongQueue", name := "size", desc := "()I" } : Jvm.MethodName) prog_41_method_2_code (1 : Nat) (Option.some Jvm.ClassFile.FieldType.int), Jvm.Cond.code ({ cls := "com/example/albatross/albatross/sim/LongQueue", name := "first", desc := "()J" } : Jvm.MethodName) prog_41_method_4_code (1 : Nat) (Option.some Jvm.ClassFile.FieldType.long), Jvm.Cond.code ({ cls := "com/example/albatross/albatross/sim/LongQueue", name := "isEmpty", desc := "()Z" } : Jvm.MethodName) prog_41_method_3_code (1 : Nat) (Option.some Jvm.ClassFile.FieldType.boolean)]
set_option maxRecDepth 65536 in
theorem codes_eq : words1.filter isCode = codes1 := rfl
theorem w_codes : ∀ c ∈ words1.filter isCode, c.before args0 about1 = true := by
  rw [codes_eq]
  intro c hc
  simp only [codes1, List.mem_cons, List.not_mem_nil, or_false] at hc
  rcases hc with rfl | rfl | rfl | rfl | rfl | rfl | rfl | rfl
  · exact w_c0
  · exact w_c1
  · exact w_c2
  · exact w_c3
  · exact w_c4
  · exact w_c5
  · exact w_c6
  · exact w_c7
set_option maxRecDepth 65536 in
theorem w_t1 : (words1.take 24).all (fun c => isCode c || c.before args0 about1) = true := by decide +kernel
set_option maxRecDepth 65536 in
theorem w_t2 : (words1.drop 24).all (fun c => isCode c || c.before args0 about1) = true := by decide +kernel
theorem w_tables : (allAtoms (Jvm.Cond.code x code maxLocals ret :: tables_1)).before args0 about1 = true := by
  rw [allAtoms_all]
  show words1.all (fun c => c.before args0 about1) = true
  refine all_split ?_ w_codes
  rw [← List.take_append_drop 24 words1, List.all_append, w_t1, w_t2]
  rfl
set_option maxRecDepth 65536 in
theorem w_case : (Jvm.Cond.and given_1 narrow_1).before args0 about1 = true := by decide +kernel
theorem w_applies : (headSpec (Jvm.Cond.code x code maxLocals ret :: tables_1) room_1).applies x e0.platform about1 = true :=
  (Spec.applies_iff w_frames).mpr ⟨w_running, w_runnable, w_alone, w_named, w_hears, w_ripe, w_room, w_tables⟩
theorem atStart : AtStart classFile x code maxLocals ret World_1 tables_1 room_1 Calls_1 rest_1 Pre_1 launch0 p0 e0 about1 theMethod args0 below0 :=
  ⟨lists_1, trivial, launch0.admits_env _ _ _, launch0.least_env, fairChoices_fair.cas, fairChoices_fair.clock, w_frames, w_args, w_heap, w_applies, trivial, trivial, w_case⟩
end start1
theorem witness_1 : WitnessClaimed_1 := ⟨start1.p0, start1.e0, start1.about1, start1.theMethod, start1.args0, start1.below0, start1.atStart⟩
end Jvm.Pilot.@@N@@
