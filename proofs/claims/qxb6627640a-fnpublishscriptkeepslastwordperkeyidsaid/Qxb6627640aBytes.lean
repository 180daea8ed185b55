import Derived.Test.Qxb6627640aPlain
namespace Go.Proofs.Qxb6627640a
open Go.RowKit

/-- The steps of the script lie from address ao on, 2 cells each. -/
def OpsAt (w : World) (ao : Option Addr) (len : Nat) (Ks : Nat → ByteArray) (Pu : Nat → Bool) : Prop :=
  ∀ k, k < len → ∃ b off, ao = some ⟨b, off, none⟩ ∧ w.cell? ⟨b, off + k * 2, none⟩ = some (.string (Ks k)) ∧ w.cell? ⟨b, off + k * 2 + 1, none⟩ = some (.bool (Pu k)) ∧ (Ks k).size ≤ maxLen ∧ b < w.heap.size

theorem OpsAt.of {w w' : World} {ao : Option Addr} {len : Nat} {Ks : Nat → ByteArray} {Pu : Nat → Bool} (h : OpsAt w ao len Ks Pu) (hb : Below w.heap.size w w') : OpsAt w' ao len Ks Pu := by
  intro k hk
  obtain ⟨b, off, e, c0, c1, z, hl⟩ := h k hk
  exact ⟨b, off, e, (hb.cell (p := ⟨b, off + k * 2, none⟩) hl).trans c0, (hb.cell (p := ⟨b, off + k * 2 + 1, none⟩) hl).trans c1, z, Nat.lt_of_lt_of_le hl hb.size⟩

/-- A bool was returned; where it is true every key ID is short. -/
def RetB (Ks : Nat → ByteArray) (len : Nat) (e : Ending) : Prop := ∃ bo, e = .returned (.bool bo) ∧ (bo = true → ∀ j, j < len → (Ks j).size ≤ 1048576)
theorem RetB.no (Ks : Nat → ByteArray) (len : Nat) : RetB Ks len (.returned (.bool false)) := ⟨false, rfl, fun h => by cases h⟩
theorem RetB.yes {Ks : Nat → ByteArray} {len : Nat} (h : ∀ j, j < len → (Ks j).size ≤ 1048576) : RetB Ks len (.returned (.bool true)) := ⟨true, rfl, fun _ => h⟩
theorem short_succ {Ks : Nat → ByteArray} {k : Nat} (h : ∀ j, j < k → (Ks j).size ≤ 1048576) (hk : (Ks k).size ≤ 1048576) : ∀ j, j < k + 1 → (Ks j).size ≤ 1048576 := by
  intro j hj
  by_cases e : j = k
  · subst e; exact hk
  · exact h j (by omega)

set_option maxRecDepth 100000 in
set_option maxHeartbeats 1000000 in
theorem bytes5 (id : ByteArray) (ao : Option Addr) (len cap : Nat) (Ks : Nat → ByteArray) (Pu : Nat → Bool) (w : World)
    (hid : id.size ≤ maxLen) (hl : len ≤ maxLen) (hM : OpsAt w ao len Ks Pu) :
    Calls Try.prog 5 #[.slice ao len cap, .string id] w fun e w' => RetB Ks len e ∧ w' = w := by
  unfold maxLen at *
  go_enter Try.func5, Try.ntmps5
  go_wp2
  iterate 1 (go_ret; exact ⟨RetB.no _ _, rfl⟩)
  go_loop [5, 6] (fun n i => ∃ (m : Int) (k : Nat), 0 ≤ m ∧ m ≤ 1048576 ∧ k ≤ len ∧ n = .int .i64 m ∧ i = .int .i64 k ∧ Hid (∀ j, j < k → (Ks j).size ≤ 1048576)) (fun _ i => len - (intOf i).toNat)
  case atStart => exact ⟨_, 0, by omega, by assumption, by omega, rfl, rfl, fun j hj => absurd hj (by omega)⟩
  case round =>
    obtain ⟨m, k, hm0, hm1, hk, rfl, rfl, HS⟩ := hrel
    by_cases hlt : k < len
    · obtain ⟨b, off, rfl, c0, c1, z0, _⟩ := hM k hlt
      unfold maxLen at *
      clear hM
      go_wp2
      iterate 2 (go_ret; exact ⟨RetB.no _ _, rfl⟩)
      go_round
      case rel => exact ⟨_, k + 1, by omega, by assumption, by omega, rfl, by go_num, short_succ HS.out (by omega)⟩
      case measure => simp [intOf]; omega
    · clear hM
      go_wp2
      all_goals (go_ret; first | exact ⟨RetB.no _ _, rfl⟩ | exact ⟨RetB.yes (fun j hj => HS.out j (by omega)), rfl⟩)

set_option maxRecDepth 100000 in
set_option maxHeartbeats 1000000 in
theorem bytes12 (id : ByteArray) (ao : Option Addr) (len cap : Nat) (Ks : Nat → ByteArray) (Pu : Nat → Bool) (w : World)
    (hid : id.size ≤ maxLen) (hl : len ≤ maxLen) (hM : OpsAt w ao len Ks Pu) :
    Calls Try.prog 12 #[.slice ao len cap, .string id] w fun e w' => RetB Ks len e ∧ w' = w := by
  unfold maxLen at *
  go_enter Try.func12, Try.ntmps12
  go_wp2
  iterate 1 (go_ret; exact ⟨RetB.no _ _, rfl⟩)
  go_loop [5, 6] (fun n i => ∃ (m : Int) (k : Nat), 0 ≤ m ∧ m ≤ 1048576 ∧ k ≤ len ∧ n = .int .i64 m ∧ i = .int .i64 k ∧ Hid (∀ j, j < k → (Ks j).size ≤ 1048576)) (fun _ i => len - (intOf i).toNat)
  case atStart => exact ⟨_, 0, by omega, by assumption, by omega, rfl, rfl, fun j hj => absurd hj (by omega)⟩
  case round =>
    obtain ⟨m, k, hm0, hm1, hk, rfl, rfl, HS⟩ := hrel
    by_cases hlt : k < len
    · obtain ⟨b, off, rfl, c0, c1, z0, _⟩ := hM k hlt
      unfold maxLen at *
      clear hM
      go_wp2
      iterate 2 (go_ret; exact ⟨RetB.no _ _, rfl⟩)
      go_round
      case rel => exact ⟨_, k + 1, by omega, by assumption, by omega, rfl, by go_num, short_succ HS.out (by omega)⟩
      case measure => simp [intOf]; omega
    · clear hM
      go_wp2
      all_goals (go_ret; first | exact ⟨RetB.no _ _, rfl⟩ | exact ⟨RetB.yes (fun j hj => HS.out j (by omega)), rfl⟩)
end Go.Proofs.Qxb6627640a
