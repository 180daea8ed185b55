import Derived.Test.Qxb6627703aSmall
import Derived.Deep.RegionHeld3
import Derived.Laws.StructEq
namespace Go.Proofs.Qxb6627703a
open Go.RowKit Go.Sort
set_option linter.unusedSimpArgs false

theorem cell_new {W : World} (vs : Array Value) {T : TypeId} {b k : Nat} {v : Value} (hb : b = W.heap.size) (h : vs[k]? = some v) : ((W.alloc (.cells vs T)).drew).cell? ⟨b, k, none⟩ = some v := by
  subst hb
  show (W.alloc (.cells vs T)).cell? ⟨W.heap.size, k, none⟩ = some v
  have e : (W.alloc (.cells vs T)).heap[W.heap.size]? = some (.cells vs T) := heap_alloc_new _ _
  unfold World.cell?
  rw [e]
  exact h

theorem Grew.drew {a b : World} (h : Grew a b) : Grew a b.drew := h.trans ⟨1, #[], by rw [grow_empty]; rfl⟩

theorem cmpC_or3 (a b : C3) : cmpC a b = or3 (cmp1 a.1 b.1) (cmp1 a.2.1 b.2.1) (cmp1 a.2.2 b.2.2) := rfl

set_option maxHeartbeats 4000000 in
theorem compare19 (a b : C3) (W : World) : Calls Try.prog 19 #[vC a, vC b] W fun e w' => e = .returned (.int .i64 (cmpC a b)) ∧ Grew W w' := by
  have k1 := fun W' => compare23 a.1 b.1 W'
  have k2 := fun W' => compare24 a.2.1 b.2.1 W'
  have k3 := fun W' => compare25 a.2.2 b.2.2 W'
  rw [cmpC_or3]
  generalize cmp1 a.1 b.1 = x at k1 ⊢
  generalize cmp1 a.2.1 b.2.1 = y at k2 ⊢
  generalize cmp1 a.2.2 b.2.2 = z at k3 ⊢
  have k4 := fun b W' => or22 b x y z W'
  generalize or3 x y z = r at k4 ⊢
  unfold vC
  obtain ⟨t, n, r⟩ := a
  obtain ⟨t', n', r'⟩ := b
  dsimp only at k1 k2 k3 ⊢
  go_enter Try.func19, Try.ntmps19
  go_wp2_with fail
  go_region_held3 (fun w' => w'.cell? ⟨W.heap.size, 0, none⟩ = some (.int .i64 t) ∧ w'.cell? ⟨W.heap.size, 1, none⟩ = some (.int .u64 n) ∧ w'.cell? ⟨W.heap.size, 2, none⟩ = some (.int .u16 r) ∧ w'.cell? ⟨W.heap.size + 1, 0, none⟩ = some (.int .i64 t') ∧ w'.cell? ⟨W.heap.size + 1, 1, none⟩ = some (.int .u64 n') ∧ w'.cell? ⟨W.heap.size + 1, 2, none⟩ = some (.int .u16 r')) (go_keep) (first
    | (go_at_call 23; refine (k1 _).mono ?_; rintro e w' ⟨rfl, rfl⟩)
    | (go_at_call 24; refine (k2 _).mono ?_; rintro e w' ⟨rfl, rfl⟩)
    | (go_at_call 25; refine (k3 _).mono ?_; rintro e w' ⟨rfl, rfl⟩)
    | (go_at_call 22; refine (k4 _ _ (cell_new _ (by simp) rfl) (cell_new _ (by simp) rfl) (cell_new _ (by simp) rfl)).mono ?_; rintro e w4 ⟨rfl, rfl⟩))
  all_goals
    go_wp2
    go_ret
    exact ⟨rfl, ((((Grew.refl _).alloc _).alloc _).alloc _).drew⟩

/-- Does run r start before c? -/
def sbC (r : R6) (c : C3) : Bool := zC r.1 || decide (cmpC r.1 c < 0)
/-- Does run r hold c? -/
def inR (r : R6) (c : C3) : Bool := sbC r c && decide (cmpC c r.2 ≤ 0)

/-- Go's '==' at changes. -/
def eqC (a b : C3) : Bool := decide (a = b)
theorem eqC_zero (a : C3) : eqC a (0, 0, 0) = zC a := by
  obtain ⟨t, n, r⟩ := a
  by_cases h1 : t = 0 <;> by_cases h2 : n = 0 <;> by_cases h3 : r = 0 <;> simp [eqC, zC, h1, h2, h3]

theorem guard37 : Try.prog.eqGuardType Try.prog.depth 37 = false := by kernel_rfl
theorem equal37 (a b : C3) (w : World) : (Op.equalIn 10000 37 (vC a) (vC b)).run Try.prog w = .ok (eqC a b) w := by
  have u2 := Try.underlying2
  have u23 := Try.underlying23
  have u35 := Try.underlying35
  have a2 := Try.isAgg2
  have a23 := Try.isAgg23
  have a35 := Try.isAgg35
  have z2 := Try.sizeOf2
  have z23 := Try.sizeOf23
  have z35 := Try.sizeOf35
  have hS : Try.prog.underlying 37 = some (.struct (Try.prog.fieldsOf 37)) := by kernel_rfl
  have hp : Try.prog.stoodInHeld 37 = false := by kernel_rfl
  obtain ⟨t, n, r⟩ := a
  obtain ⟨t', n', r'⟩ := b
  simp only [vC]
  rw [show (10000 : Nat) = 9999 + 1 from rfl, run_equalIn_agg w 9999 37 _ _ hS hp]
  simp only [Program.fieldsOf, Try.underlying37]
  go_simp
  by_cases h1 : t = t' <;> by_cases h2 : n = n' <;> by_cases h3 : r = r' <;> simp [eqC, h1, h2, h3]

set_option maxHeartbeats 1000000 in
theorem startsBefore21 (x : R6) (c : C3) (W : World) : Calls Try.prog 21 #[vR x, vC c] W fun e w' => e = .returned (.bool (sbC x c)) ∧ Grew W w' := by
  have k1 := fun W' => compare19 x.1 c W'
  have k2 := fun W' => equal37 x.1 (0, 0, 0) W'
  have k3 := guard37
  rw [eqC_zero] at k2
  unfold sbC
  generalize cmpC x.1 c = r at k1 ⊢
  generalize zC x.1 = b at k2 ⊢
  unfold vR vC
  unfold vC at k1 k2
  obtain ⟨⟨t, n, r⟩, ⟨t1, n1, r1⟩⟩ := x
  obtain ⟨t', n', r'⟩ := c
  dsimp only at k1 k2 ⊢
  go_enter Try.func21, Try.ntmps21
  cases b with
  | true =>
    go_wp2_with fail
    go_ret
    exact ⟨rfl, ((Grew.refl _).alloc _).alloc _⟩
  | false =>
    go_wp2_with (go_at_call 19; refine (k1 _).mono ?_; rintro e w' ⟨rfl, hG⟩)
    go_ret
    exact ⟨by simp, (((Grew.refl _).alloc _).alloc _).trans hG⟩

theorem box1 (W : World) (vs : Array Value) (T : TypeId) (o : Obj) (k : Nat) : ((W.alloc (.cells vs T)).alloc o).cell? ⟨W.heap.size, k, none⟩ = vs[k]? := by
  have e : ((W.alloc (.cells vs T)).alloc o).heap[W.heap.size]? = some (.cells vs T) := by
    rw [alloc_eq_grow, heap_grow_old _ _ (by simp)]
    exact heap_alloc_new _ _
  unfold World.cell?
  rw [e]
  rfl
theorem box2 (W : World) (vs : Array Value) (T : TypeId) (o : Obj) (k : Nat) : ((W.alloc o).alloc (.cells vs T)).cell? ⟨W.heap.size + 1, k, none⟩ = vs[k]? := by
  have e : ((W.alloc o).alloc (.cells vs T)).heap[W.heap.size + 1]? = some (.cells vs T) := by
    have := heap_alloc_new (W.alloc o) (.cells vs T)
    simpa using this
  unfold World.cell?
  rw [e]
  rfl
theorem Grew.heap {a b : World} (h : Grew a b) {k : Nat} (hk : k < a.heap.size) : b.heap[k]? = a.heap[k]? := by
  obtain ⟨q, os, rfl⟩ := h
  rw [heap_grow_old _ _ (by exact hk)]
  rfl
theorem Grew.size {a b : World} (h : Grew a b) : a.heap.size ≤ b.heap.size := by
  obtain ⟨q, os, rfl⟩ := h
  rw [size_grow]
  exact Nat.le_add_right _ _
theorem Grew.cell {a b : World} (h : Grew a b) {p : Addr} {v : Value} (hp : p.block < a.heap.size) (hc : a.cell? p = some v) : b.cell? p = some v := by
  obtain ⟨q, os, rfl⟩ := h
  rw [cell?_grow _ _ _ (by exact hp)]
  exact hc
theorem Grew.frozen {a b : World} (h : Grew a b) {p : Addr} {v : Bool} (hp : p.block < a.heap.size) (hc : a.frozen? p = v) : b.frozen? p = v := by
  obtain ⟨q, os, rfl⟩ := h
  rw [frozen?_grow _ _ _ (by exact hp)]
  exact hc

/-- The cells vs lie at the front of block b. -/
def At (w : World) (b : Nat) (vs : Array Value) : Prop := b < w.heap.size ∧ ∀ k v, vs[k]? = some v → w.cell? ⟨b, k, none⟩ = some v
theorem At.of {w w' : World} {b : Nat} {vs : Array Value} (h : At w b vs) (g : Grew w w') : At w' b vs :=
  ⟨Nat.lt_of_lt_of_le h.1 g.size, fun k v hv => g.cell h.1 (h.2 k v hv)⟩
theorem At.box1 (W : World) (vs : Array Value) (T : TypeId) (o : Obj) : At ((W.alloc (.cells vs T)).alloc o) W.heap.size vs :=
  ⟨by simp; omega, fun k v hv => (Qxb6627703a.box1 ..).trans hv⟩
theorem At.box2 (W : World) (vs : Array Value) (T : TypeId) (o : Obj) : At ((W.alloc o).alloc (.cells vs T)) (W.heap.size + 1) vs :=
  ⟨by simp, fun k v hv => (Qxb6627703a.box2 ..).trans hv⟩
theorem At.three {w : World} {b : Nat} {x y z : Value} (h : At w b #[x, y, z]) : w.cell? ⟨b, 0, none⟩ = some x ∧ w.cell? ⟨b, 1, none⟩ = some y ∧ w.cell? ⟨b, 2, none⟩ = some z :=
  ⟨h.2 0 _ rfl, h.2 1 _ rfl, h.2 2 _ rfl⟩
theorem At.six {w : World} {b : Nat} {x y z x' y' z' : Value} (h : At w b #[x, y, z, x', y', z']) : w.cell? ⟨b, 0, none⟩ = some x ∧ w.cell? ⟨b, 1, none⟩ = some y ∧ w.cell? ⟨b, 2, none⟩ = some z ∧ w.cell? ⟨b, 3, none⟩ = some x' ∧ w.cell? ⟨b, 4, none⟩ = some y' ∧ w.cell? ⟨b, 5, none⟩ = some z' :=
  ⟨h.2 0 _ rfl, h.2 1 _ rfl, h.2 2 _ rfl, h.2 3 _ rfl, h.2 4 _ rfl, h.2 5 _ rfl⟩

set_option maxHeartbeats 1000000 in
theorem holds13 (x : R6) (c : C3) (W : World) : Calls Try.prog 13 #[vR x, vC c] W fun e w' => e = .returned (.bool (inR x c)) ∧ Grew W w' := by
  have k1 := fun W' => startsBefore21 x c W'
  have k2 := fun W' => compare19 c x.2 W'
  unfold inR
  generalize cmpC c x.2 = r at k2 ⊢
  generalize sbC x c = b at k1 ⊢
  unfold vR vC
  unfold vR vC at k1 
  unfold vC at k2
  obtain ⟨⟨t, n, r⟩, ⟨t1, n1, r1⟩⟩ := x
  obtain ⟨t', n', r'⟩ := c
  dsimp only at k1 k2 ⊢
  go_enter Try.func13, Try.ntmps13
  cases b with
  | true =>
    go_wp2_with (first
      | (go_at_call 21; refine (k1 _).mono ?_; rintro e w' ⟨rfl, hG⟩; obtain ⟨c0, c1, c2, c3, c4, c5⟩ := ((At.box1 ..).of hG).six; obtain ⟨d0, d1, d2⟩ := ((At.box2 ..).of hG).three)
      | (go_at_call 19; refine (k2 _).mono ?_; rintro e w' ⟨rfl, hG'⟩))
    go_ret
    exact ⟨by simp, ((((Grew.refl _).alloc _).alloc _).trans hG).trans hG'⟩
  | false =>
    go_wp2_with (go_at_call 21; refine (k1 _).mono ?_; rintro e w' ⟨rfl, hG⟩)
    go_ret
    exact ⟨by simp, (((Grew.refl _).alloc _).alloc _).trans hG⟩

end Go.Proofs.Qxb6627703a
