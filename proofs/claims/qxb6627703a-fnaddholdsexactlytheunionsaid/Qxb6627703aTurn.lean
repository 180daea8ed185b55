import Derived.Test.Qxb6627703aConv
namespace Go.Proofs.Qxb6627703a
open Go.RowKit Go.Sort
set_option linter.unusedSimpArgs false

theorem Grew.setCell {a b : World} (h : Grew a b) {p : Addr} (hp : a.heap.size ≤ p.block) (v : Value) : Grew a (b.setCell p v) := by
  obtain ⟨q, os, rfl⟩ := h
  refine ⟨q, os.modify (p.block - a.heap.size) fun
      | .cells c elem frozen => .cells (if p.spot.isSome then c else c.setIfInBounds p.off v) elem frozen
      | o => o, ?_⟩
  unfold World.setCell grow
  congr 1
  exact modify_append_right (a.drewN q).heap os p.block _ hp

set_option maxHeartbeats 1000000 in
theorem toCSN7 (c : C3) (W : World) : Calls Try.prog 7 #[vC c] W fun e w' => e = .returned (vC c) ∧
    w' = (W.alloc (.cells #[.int .i64 c.1, .int .u64 c.2.1, .int .u16 c.2.2] 26)).alloc (.cells #[.int .i64 c.1, .int .u64 c.2.1, .int .u16 c.2.2] 37) := by
  unfold vC
  obtain ⟨t, n, r⟩ := c
  dsimp only
  go_enter Try.func7, Try.ntmps7
  go_wp2
  exact bodyPost_ret (v := .agg #[.int .i64 t, .int .u64 n, .int .u16 r]) (by simp [results, Try.results7, go_sem]) rfl ⟨rfl, rfl⟩

set_option maxHeartbeats 1000000 in
theorem fromCSN16 (c : C3) (W : World) : Calls Try.prog 16 #[vC c] W fun e w' => e = .returned (vC c) ∧
    w' = (W.alloc (.cells #[.int .i64 c.1, .int .u64 c.2.1, .int .u16 c.2.2] 37)).alloc (.cells #[.int .i64 c.1, .int .u64 c.2.1, .int .u16 c.2.2] 26) := by
  unfold vC
  obtain ⟨t, n, r⟩ := c
  dsimp only
  go_enter Try.func16, Try.ntmps16
  go_wp2
  exact bodyPost_ret (v := .agg #[.int .i64 t, .int .u64 n, .int .u16 r]) (by simp [results, Try.results16, go_sem]) rfl ⟨rfl, rfl⟩

set_option maxHeartbeats 2000000 in
theorem toRun12 (x : R6) (W : World) : Calls Try.prog 12 #[vR x] W fun e w' => e = .returned (vR x) ∧ Grew W w' := by
  have k0 := fun W' => toCSN7 x.1 W'
  have k1 := fun W' => toCSN7 x.2 W'
  unfold vR
  unfold vC at k0 k1
  obtain ⟨⟨t, n, r⟩, ⟨t', n', r'⟩⟩ := x
  dsimp only at k0 k1 ⊢
  go_enter Try.func12, Try.ntmps12
  go_wp2_with fail
  go_region_with (first
    | (go_at_call 7; with_reducible refine (k0 _).mono ?_; rintro e w' ⟨rfl, rfl⟩)
    | (go_at_call 7; with_reducible refine (k1 _).mono ?_; rintro e w' ⟨rfl, rfl⟩))
  all_goals
    go_wp2
    exact bodyPost_ret (v := .agg #[.int .i64 t, .int .u64 n, .int .u16 r, .int .i64 t', .int .u64 n', .int .u16 r']) (by simp [results, Try.results12, go_sem]) rfl ⟨rfl, by repeat (first | with_reducible exact Grew.refl _ | with_reducible apply Grew.drew | with_reducible refine Grew.alloc ?_ _ | with_reducible refine Grew.setCell ?_ (by simp) _)⟩

set_option maxHeartbeats 2000000 in
theorem fromRun10 (x : R6) (W : World) : Calls Try.prog 10 #[vR x] W fun e w' => e = .returned (vR x) ∧ Grew W w' := by
  have k0 := fun W' => fromCSN16 x.1 W'
  have k1 := fun W' => fromCSN16 x.2 W'
  unfold vR
  unfold vC at k0 k1
  obtain ⟨⟨t, n, r⟩, ⟨t', n', r'⟩⟩ := x
  dsimp only at k0 k1 ⊢
  go_enter Try.func10, Try.ntmps10
  go_wp2_with fail
  go_region_with (first
    | (go_at_call 16; with_reducible refine (k0 _).mono ?_; rintro e w' ⟨rfl, rfl⟩)
    | (go_at_call 16; with_reducible refine (k1 _).mono ?_; rintro e w' ⟨rfl, rfl⟩))
  all_goals
    go_wp2
    exact bodyPost_ret (v := .agg #[.int .i64 t, .int .u64 n, .int .u16 r, .int .i64 t', .int .u64 n', .int .u16 r']) (by simp [results, Try.results10, go_sem]) rfl ⟨rfl, by repeat (first | with_reducible exact Grew.refl _ | with_reducible apply Grew.drew | with_reducible refine Grew.alloc ?_ _ | with_reducible refine Grew.setCell ?_ (by simp) _)⟩

end Go.Proofs.Qxb6627703a
