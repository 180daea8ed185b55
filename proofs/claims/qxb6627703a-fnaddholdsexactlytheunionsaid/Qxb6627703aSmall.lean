import Derived.Test.Qxb6627703aRows
import Derived.WalkKit
import Derived.WalkSpells
import Derived.WalkLawsBesides
import Derived.Deep.QuietTactic
import Derived.BigQuiet
import Derived.Deep.RegionWith
import Derived.BigRegion
import Derived.Sort.Grow
namespace Go.Proofs.Qxb6627703a
open Go.RowKit Go.Sort
set_option linter.unusedSimpArgs false

/-- A change: time, count, replica. -/
abbrev C3 := Int × Int × Int
/-- A run: after, through. -/
abbrev R6 := C3 × C3
def encC (c : C3) : List Value := [.int .i64 c.1, .int .u64 c.2.1, .int .u16 c.2.2]
def encR (r : R6) : List Value := [.int .i64 r.1.1, .int .u64 r.1.2.1, .int .u16 r.1.2.2, .int .i64 r.2.1, .int .u64 r.2.2.1, .int .u16 r.2.2.2]
def vC (c : C3) : Value := .agg #[.int .i64 c.1, .int .u64 c.2.1, .int .u16 c.2.2]
def vR (r : R6) : Value := .agg #[.int .i64 r.1.1, .int .u64 r.1.2.1, .int .u16 r.1.2.2, .int .i64 r.2.1, .int .u64 r.2.2.1, .int .u16 r.2.2.2]

def cmp1 (a b : Int) : Int := if a < b then -1 else if b < a then 1 else 0
def cmpC (a b : C3) : Int := if cmp1 a.1 b.1 ≠ 0 then cmp1 a.1 b.1 else if cmp1 a.2.1 b.2.1 ≠ 0 then cmp1 a.2.1 b.2.1 else cmp1 a.2.2 b.2.2
def zC (a : C3) : Bool := decide (a.1 = 0) && decide (a.2.1 = 0) && decide (a.2.2 = 0)

/-- The world has drawn and grown, no more. -/
def Grew (W w' : World) : Prop := ∃ q os, w' = grow (W.drewN q) os
theorem Grew.refl (W : World) : Grew W W := ⟨0, #[], by simp [World.drewN, grow]⟩
theorem grow_drewN (w : World) (os : Array Obj) (q : Nat) : (grow w os).drewN q = grow (w.drewN q) os := rfl
theorem Grew.trans {a b c : World} (h : Grew a b) (k : Grew b c) : Grew a c := by
  obtain ⟨q, os, rfl⟩ := h
  obtain ⟨q', os', rfl⟩ := k
  exact ⟨q + q', os ++ os', by rw [grow_drewN, grow_grow, World.drewN_drewN]⟩
theorem Grew.alloc {a b : World} (h : Grew a b) (o : Obj) : Grew a (b.alloc o) := h.trans ⟨0, #[o], by rw [alloc_eq_grow]; rfl⟩

set_option maxHeartbeats 1000000 in
theorem isZero14 (c : C3) (W : World) : Calls Try.prog 14 #[vC c] W fun e w' => e = .returned (.bool (zC c)) ∧ Grew W w' := by
  unfold vC zC
  obtain ⟨t, n, r⟩ := c
  go_enter Try.func14, Try.ntmps14
  by_cases h1 : t = 0
  · subst h1
    by_cases h2 : n = 0
    · subst h2
      go_wp2
      go_ret
      exact ⟨rfl, (Grew.refl _).alloc _⟩
    · have h2' : decide (n = 0) = false := decide_eq_false h2
      go_wp2
      go_ret
      exact ⟨rfl, (Grew.refl _).alloc _⟩
  · have h1' : decide (t = 0) = false := decide_eq_false h1
    go_wp2
    go_ret
    exact ⟨by simp [h1'], (Grew.refl _).alloc _⟩

theorem cmpC_t {a b : C3} (h : a.1 ≠ b.1) : cmpC a b = if a.1 < b.1 then -1 else 1 := by
  unfold cmpC cmp1
  split <;> split <;> (try split) <;> (try split) <;> omega
theorem cmpC_n {a b : C3} (h : a.1 = b.1) (h2 : a.2.1 ≠ b.2.1) : cmpC a b = if a.2.1 < b.2.1 then -1 else 1 := by
  unfold cmpC cmp1
  split <;> split <;> (try split) <;> (try split) <;> omega
theorem cmpC_r {a b : C3} (h : a.1 = b.1) (h2 : a.2.1 = b.2.1) (h3 : a.2.2 ≠ b.2.2) : cmpC a b = if a.2.2 < b.2.2 then -1 else 1 := by
  unfold cmpC cmp1
  split <;> split <;> (try split) <;> (try split) <;> omega
theorem cmpC_e {a b : C3} (h : a.1 = b.1) (h2 : a.2.1 = b.2.1) (h3 : a.2.2 = b.2.2) : cmpC a b = 0 := by
  unfold cmpC cmp1
  split <;> split <;> (try split) <;> (try split) <;> omega

set_option maxHeartbeats 1000000 in
theorem zzCmp15 (a b : C3) (W : World) : Calls Try.prog 15 #[vC a, vC b] W fun e w' => e = .returned (.int .i64 (cmpC a b)) ∧ Grew W w' := by
  have e1 := @cmpC_t a b
  have e2 := @cmpC_n a b
  have e3 := @cmpC_r a b
  have e4 := @cmpC_e a b
  generalize cmpC a b = r at e1 e2 e3 e4 ⊢
  unfold vC
  obtain ⟨t, n, r⟩ := a
  obtain ⟨t', n', r'⟩ := b
  dsimp only at e1 e2 e3 e4 ⊢
  go_enter Try.func15, Try.ntmps15
  by_cases h1 : t = t'
  · by_cases h2 : n = n'
    · by_cases h3 : r = r'
      · rw [e4 h1 h2 h3]; clear e1 e2 e3 e4
        subst h1 h2 h3
        go_wp2
        go_ret
        exact ⟨rfl, ((Grew.refl _).alloc _).alloc _⟩
      · rw [e3 h1 h2 h3]; clear e1 e2 e3 e4
        subst h1 h2
        by_cases h4 : r < r'
        · go_wp2
          go_ret
          exact ⟨by simp [h4], ((Grew.refl _).alloc _).alloc _⟩
        · go_wp2
          go_ret
          exact ⟨by simp [h4], ((Grew.refl _).alloc _).alloc _⟩
    · rw [e2 h1 h2]; clear e1 e2 e3 e4
      subst h1
      by_cases h4 : n < n'
      · go_wp2
        go_ret
        exact ⟨by simp [h4], ((Grew.refl _).alloc _).alloc _⟩
      · go_wp2
        go_ret
        exact ⟨by simp [h4], ((Grew.refl _).alloc _).alloc _⟩
  · rw [e1 h1]; clear e1 e2 e3 e4
    by_cases h4 : t < t'
    · go_wp2
      go_ret
      exact ⟨by simp [h4], ((Grew.refl _).alloc _).alloc _⟩
    · go_wp2
      go_ret
      exact ⟨by simp [h4], ((Grew.refl _).alloc _).alloc _⟩

theorem cmp1_lt {a b : Int} (h : a < b) : cmp1 a b = -1 := by unfold cmp1; simp [h]
theorem cmp1_gt {a b : Int} (h : b < a) : cmp1 a b = 1 := by
  have h' : ¬ a < b := by omega
  unfold cmp1
  simp [h, h']
theorem cmp1_eq (a : Int) : cmp1 a a = 0 := by unfold cmp1; simp

set_option maxHeartbeats 1000000 in
theorem isNaN28 (a : Int) (W : World) : Calls Try.prog 28 #[.int .i64 a] W fun e w' => e = .returned (.bool false) ∧ w' = W := by
  go_enter Try.func28, Try.ntmps28
  go_wp2
  go_ret
  exact ⟨by simp, rfl⟩

set_option maxHeartbeats 1000000 in
theorem compare23 (a b : Int) (W : World) : Calls Try.prog 23 #[.int .i64 a, .int .i64 b] W fun e w' => e = .returned (.int .i64 (cmp1 a b)) ∧ w' = W := by
  have e1 := @cmp1_lt a b
  have e2 := @cmp1_gt a b
  have e3 : a = b → cmp1 a b = 0 := fun h => by subst h; exact cmp1_eq a
  generalize cmp1 a b = r at e1 e2 e3 ⊢
  go_enter Try.func23, Try.ntmps23
  by_cases h1 : a < b
  · rw [e1 h1]; clear e1 e2 e3
    go_wp2_with (go_at_call 28; refine (isNaN28 _ _).mono ?_; rintro e w' ⟨rfl, rfl⟩)
    go_ret
    exact ⟨rfl, rfl⟩
  · by_cases h2 : b < a
    · rw [e2 h2]; clear e1 e2 e3
      go_wp2_with (go_at_call 28; refine (isNaN28 _ _).mono ?_; rintro e w' ⟨rfl, rfl⟩)
      go_ret
      exact ⟨rfl, rfl⟩
    · rw [e3 (by omega)]; clear e1 e2 e3
      go_wp2_with (go_at_call 28; refine (isNaN28 _ _).mono ?_; rintro e w' ⟨rfl, rfl⟩)
      go_ret
      exact ⟨rfl, rfl⟩

set_option maxHeartbeats 1000000 in
theorem isNaN29 (a : Int) (W : World) : Calls Try.prog 29 #[.int .u64 a] W fun e w' => e = .returned (.bool false) ∧ w' = W := by
  go_enter Try.func29, Try.ntmps29
  go_wp2
  go_ret
  exact ⟨by simp, rfl⟩

set_option maxHeartbeats 1000000 in
theorem compare24 (a b : Int) (W : World) : Calls Try.prog 24 #[.int .u64 a, .int .u64 b] W fun e w' => e = .returned (.int .i64 (cmp1 a b)) ∧ w' = W := by
  have e1 := @cmp1_lt a b
  have e2 := @cmp1_gt a b
  have e3 : a = b → cmp1 a b = 0 := fun h => by subst h; exact cmp1_eq a
  generalize cmp1 a b = r at e1 e2 e3 ⊢
  go_enter Try.func24, Try.ntmps24
  by_cases h1 : a < b
  · rw [e1 h1]; clear e1 e2 e3
    go_wp2_with (go_at_call 29; refine (isNaN29 _ _).mono ?_; rintro e w' ⟨rfl, rfl⟩)
    go_ret
    exact ⟨rfl, rfl⟩
  · by_cases h2 : b < a
    · rw [e2 h2]; clear e1 e2 e3
      go_wp2_with (go_at_call 29; refine (isNaN29 _ _).mono ?_; rintro e w' ⟨rfl, rfl⟩)
      go_ret
      exact ⟨rfl, rfl⟩
    · rw [e3 (by omega)]; clear e1 e2 e3
      go_wp2_with (go_at_call 29; refine (isNaN29 _ _).mono ?_; rintro e w' ⟨rfl, rfl⟩)
      go_ret
      exact ⟨rfl, rfl⟩

set_option maxHeartbeats 1000000 in
theorem isNaN30 (a : Int) (W : World) : Calls Try.prog 30 #[.int .u16 a] W fun e w' => e = .returned (.bool false) ∧ w' = W := by
  go_enter Try.func30, Try.ntmps30
  go_wp2
  go_ret
  exact ⟨by simp, rfl⟩

set_option maxHeartbeats 1000000 in
theorem compare25 (a b : Int) (W : World) : Calls Try.prog 25 #[.int .u16 a, .int .u16 b] W fun e w' => e = .returned (.int .i64 (cmp1 a b)) ∧ w' = W := by
  have e1 := @cmp1_lt a b
  have e2 := @cmp1_gt a b
  have e3 : a = b → cmp1 a b = 0 := fun h => by subst h; exact cmp1_eq a
  generalize cmp1 a b = r at e1 e2 e3 ⊢
  go_enter Try.func25, Try.ntmps25
  by_cases h1 : a < b
  · rw [e1 h1]; clear e1 e2 e3
    go_wp2_with (go_at_call 30; refine (isNaN30 _ _).mono ?_; rintro e w' ⟨rfl, rfl⟩)
    go_ret
    exact ⟨rfl, rfl⟩
  · by_cases h2 : b < a
    · rw [e2 h2]; clear e1 e2 e3
      go_wp2_with (go_at_call 30; refine (isNaN30 _ _).mono ?_; rintro e w' ⟨rfl, rfl⟩)
      go_ret
      exact ⟨rfl, rfl⟩
    · rw [e3 (by omega)]; clear e1 e2 e3
      go_wp2_with (go_at_call 30; refine (isNaN30 _ _).mono ?_; rintro e w' ⟨rfl, rfl⟩)
      go_ret
      exact ⟨rfl, rfl⟩

def or3 (x y z : Int) : Int := if x ≠ 0 then x else if y ≠ 0 then y else z

set_option maxHeartbeats 1000000 in
theorem or22 (b : Nat) (x y z : Int) (W : World) (h0 : W.cell? ⟨b, 0, none⟩ = some (.int .i64 x)) (h1 : W.cell? ⟨b, 1, none⟩ = some (.int .i64 y)) (h2 : W.cell? ⟨b, 2, none⟩ = some (.int .i64 z)) :
    Calls Try.prog 22 #[.slice (some ⟨b, 0, none⟩) 3 3] W fun e w' => e = .returned (.int .i64 (or3 x y z)) ∧ w' = W := by
  have hc : ∀ k : Nat, k < 3 → W.cell? ⟨b, k, none⟩ = some (.int .i64 (if k = 0 then x else if k = 1 then y else z)) := by
    intro k hk
    rcases k with _ | _ | _ | k
    · simpa using h0
    · simpa using h1
    · simpa using h2
    · omega
  have e1 : ∀ k : Nat, k < 3 → (∀ j : Nat, j < k → (if j = 0 then x else if j = 1 then y else z) = 0) → (if k = 0 then x else if k = 1 then y else z) ≠ 0 → or3 x y z = (if k = 0 then x else if k = 1 then y else z) := by
    intro k hk hj hn
    unfold or3
    rcases k with _ | _ | _ | k
    · simp at hn; simp [hn]
    · have := hj 0 (by omega)
      simp at hn this; simp [hn, this]
    · have := hj 0 (by omega)
      have := hj 1 (by omega)
      simp_all
    · omega
  have e2 : (∀ j : Nat, j < 3 → (if j = 0 then x else if j = 1 then y else z) = 0) → or3 x y z = 0 := by
    intro hj
    have := hj 0 (by omega)
    have := hj 1 (by omega)
    have := hj 2 (by omega)
    simp at *
    simp [or3, *]
  generalize or3 x y z = r at e1 e2 ⊢
  generalize hf : (fun k : Nat => if k = 0 then x else if k = 1 then y else z) = f at *
  have hfk : ∀ k : Nat, (if k = 0 then x else if k = 1 then y else z) = f k := fun k => by rw [← hf]
  simp only [hfk] at hc e1 e2
  clear h0 h1 h2 hf hfk
  go_enter Try.func22, Try.ntmps22
  go_wp2
  go_loop [8] (fun i => ∃ k : Nat, k ≤ 3 ∧ i = .int .i64 k ∧ ∀ j : Nat, j < k → f j = 0) (fun i => 3 - (intOf i).toNat)
  case atStart => exact ⟨0, by omega, rfl, fun j hj => absurd hj (by omega)⟩
  case round =>
    obtain ⟨k, hk, rfl, hz⟩ := hrel
    by_cases hlt : k < 3
    · have cc := hc k hlt
      by_cases hn : f k = 0
      · clear hc e1 e2
        rw [hn] at cc
        go_wp2
        go_round
        case rel => exact ⟨k + 1, by omega, by go_num, fun j hj => by
          by_cases hjk : j = k
          · subst hjk; exact hn
          · exact hz j (by omega)⟩
        case measure => simp [intOf]; omega
      · have er := e1 k hlt hz hn
        clear hc e1 e2
        go_wp2
        go_ret
        exact ⟨rfl, rfl⟩
    · obtain rfl : k = 3 := by omega
      have er := e2 hz
      clear hc e1 e2
      go_wp2
      go_ret
      exact ⟨rfl, rfl⟩

end Go.Proofs.Qxb6627703a
