import Derived.Test.Qxb6627599aRows
import Derived.WalkKit
import Derived.WalkSpells
import Derived.WalkLawsBesides
namespace Go.Proofs.Qxb6627599a
open Go.RowKit

/-- Four strings: a monitor. -/
structure Mon where
  i : ByteArray
  l : ByteArray
  p : ByteArray
  d : ByteArray

/-- The rows M lie from address ao on, 4 cells each. -/
def MonsAt (w : World) (ao : Option Addr) (len : Nat) (M : Nat → Mon) : Prop :=
  ∀ k, k < len → ∃ b off, ao = some ⟨b, off, none⟩ ∧ w.cell? ⟨b, off + k * 4, none⟩ = some (.string (M k).i) ∧ w.cell? ⟨b, off + k * 4 + 1, none⟩ = some (.string (M k).l)
    ∧ w.cell? ⟨b, off + k * 4 + 2, none⟩ = some (.string (M k).p) ∧ w.cell? ⟨b, off + k * 4 + 3, none⟩ = some (.string (M k).d) ∧ (M k).i.size ≤ maxLen ∧ (M k).l.size ≤ maxLen ∧ (M k).p.size ≤ maxLen ∧ (M k).d.size ≤ maxLen ∧ b < w.heap.size

/-- The sets lie from address ao on, 7 cells each. -/
def SetsAt (w : World) (ao : Option Addr) (len : Nat) : Prop :=
  ∀ k, k < len → ∃ b off, ao = some ⟨b, off, none⟩ ∧ ∃ (s0 s1 s6 : ByteArray) (n2 n3 n4 : Int) (pa : Option Addr),
    w.cell? ⟨b, off + k * 7, none⟩ = some (.string s0) ∧ w.cell? ⟨b, off + k * 7 + 1, none⟩ = some (.string s1)
    ∧ w.cell? ⟨b, off + k * 7 + 2, none⟩ = some (.int .i64 n2) ∧ w.cell? ⟨b, off + k * 7 + 3, none⟩ = some (.int .i64 n3) ∧ w.cell? ⟨b, off + k * 7 + 4, none⟩ = some (.int .i64 n4)
    ∧ w.cell? ⟨b, off + k * 7 + 5, none⟩ = some (.pointer pa) ∧ w.cell? ⟨b, off + k * 7 + 6, none⟩ = some (.string s6)
    ∧ s0.size ≤ maxLen ∧ s1.size ≤ maxLen ∧ s6.size ≤ maxLen ∧ b < w.heap.size
    ∧ (∀ a, pa = some a → a.spot = none ∧ a.block < w.heap.size ∧ ∃ x, w.cell? a = some (.bool x))

/-- A bool was returned. -/
def RetB (e : Ending) : Prop := ∃ bo, e = .returned (.bool bo)
theorem RetB.mk (bo : Bool) : RetB (.returned (.bool bo)) := ⟨bo, rfl⟩

set_option maxRecDepth 100000 in
set_option maxHeartbeats 1000000 in
theorem bytes5 (pw id : ByteArray) (ao ao2 : Option Addr) (len cap len2 cap2 : Nat) (M : Nat → Mon) (cut : Int) (w : World)
    (hpw : pw.size ≤ maxLen) (hid : id.size ≤ maxLen) (hl : len ≤ maxLen) (hl2 : len2 ≤ maxLen) (hM : MonsAt w ao len M) (hS : SetsAt w ao2 len2) :
    Calls Try.prog 5 #[.string pw, .slice ao len cap, .slice ao2 len2 cap2, .string id, .int .i64 cut] w fun e w' => RetB e ∧ w' = w := by
  unfold maxLen at *
  go_enter Try.func5, Try.ntmps5
  go_wp2
  iterate 3 (go_ret; exact ⟨RetB.mk _, rfl⟩)
  go_loop [11, 12] (fun n i => ∃ (m : Int) (k : Nat), 0 ≤ m ∧ m ≤ 1048576 ∧ k ≤ len ∧ n = .int .i64 m ∧ i = .int .i64 k) (fun _ i => len - (intOf i).toNat)
  case atStart => exact ⟨_, 0, by omega, by assumption, by omega, rfl, rfl⟩
  case round =>
    obtain ⟨m, k, hm0, hm1, hk, rfl, rfl⟩ := hrel
    by_cases hlt : k < len
    · obtain ⟨b, off, rfl, c0, c1, c2, c3, z0, z1, z2, z3, _⟩ := hM k hlt
      unfold maxLen at *
      clear hM hS
      go_wp2
      iterate 8 (go_ret; exact ⟨RetB.mk _, rfl⟩)
      go_round
      case rel => exact ⟨_, k + 1, by omega, by assumption, by omega, rfl, by go_num⟩
      case measure => simp [intOf]; omega
    · clear hM
      go_wp2
      iterate 2 (go_ret; exact ⟨RetB.mk _, rfl⟩)
      go_loop [11, 13] (fun n i => ∃ (m : Int) (k : Nat), 0 ≤ m ∧ m ≤ 1048576 ∧ k ≤ len2 ∧ n = .int .i64 m ∧ i = .int .i64 k) (fun _ i => len2 - (intOf i).toNat)
      case atStart => exact ⟨_, 0, by omega, by assumption, by omega, rfl, rfl⟩
      case round =>
        obtain ⟨m, k, hm0, hm1, hk, rfl, rfl⟩ := hrel
        by_cases hlt2 : k < len2
        · obtain ⟨b, off, rfl, s0, s1, s6, n2, n3, n4, pa, c0, c1, c2, c3, c4, c5, c6, z0, z1, z6, _, _⟩ := hS k hlt2
          unfold maxLen at *
          clear hS c2 c3 c4 c5
          go_wp2
          iterate 6 (go_ret; exact ⟨RetB.mk _, rfl⟩)
          go_round
          case rel => exact ⟨_, k + 1, by omega, by assumption, by omega, rfl, by go_num⟩
          case measure => simp [intOf]; omega
        · clear hS
          go_wp2
          all_goals (go_ret; exact ⟨RetB.mk _, rfl⟩)

set_option maxRecDepth 100000 in
set_option maxHeartbeats 1000000 in
theorem bytes9 (pw id : ByteArray) (ao ao2 : Option Addr) (len cap len2 cap2 : Nat) (M : Nat → Mon) (w : World)
    (hpw : pw.size ≤ maxLen) (hid : id.size ≤ maxLen) (hl : len ≤ maxLen) (hl2 : len2 ≤ maxLen) (hM : MonsAt w ao len M) (hS : SetsAt w ao2 len2) :
    Calls Try.prog 9 #[.string pw, .slice ao len cap, .slice ao2 len2 cap2, .string id] w fun e w' => RetB e ∧ w' = w := by
  unfold maxLen at *
  go_enter Try.func9, Try.ntmps9
  go_wp2
  iterate 3 (go_ret; exact ⟨RetB.mk _, rfl⟩)
  go_loop [9, 10] (fun n i => ∃ (m : Int) (k : Nat), 0 ≤ m ∧ m ≤ 1048576 ∧ k ≤ len ∧ n = .int .i64 m ∧ i = .int .i64 k) (fun _ i => len - (intOf i).toNat)
  case atStart => exact ⟨_, 0, by omega, by assumption, by omega, rfl, rfl⟩
  case round =>
    obtain ⟨m, k, hm0, hm1, hk, rfl, rfl⟩ := hrel
    by_cases hlt : k < len
    · obtain ⟨b, off, rfl, c0, c1, c2, c3, z0, z1, z2, z3, _⟩ := hM k hlt
      unfold maxLen at *
      clear hM hS
      go_wp2
      iterate 8 (go_ret; exact ⟨RetB.mk _, rfl⟩)
      go_round
      case rel => exact ⟨_, k + 1, by omega, by assumption, by omega, rfl, by go_num⟩
      case measure => simp [intOf]; omega
    · clear hM
      go_wp2
      iterate 2 (go_ret; exact ⟨RetB.mk _, rfl⟩)
      go_loop [9, 11] (fun n i => ∃ (m : Int) (k : Nat), 0 ≤ m ∧ m ≤ 1048576 ∧ k ≤ len2 ∧ n = .int .i64 m ∧ i = .int .i64 k) (fun _ i => len2 - (intOf i).toNat)
      case atStart => exact ⟨_, 0, by omega, by assumption, by omega, rfl, rfl⟩
      case round =>
        obtain ⟨m, k, hm0, hm1, hk, rfl, rfl⟩ := hrel
        by_cases hlt2 : k < len2
        · obtain ⟨b, off, rfl, s0, s1, s6, n2, n3, n4, pa, c0, c1, c2, c3, c4, c5, c6, z0, z1, z6, _, _⟩ := hS k hlt2
          unfold maxLen at *
          clear hS c2 c3 c4 c5
          go_wp2
          iterate 6 (go_ret; exact ⟨RetB.mk _, rfl⟩)
          go_round
          case rel => exact ⟨_, k + 1, by omega, by assumption, by omega, rfl, by go_num⟩
          case measure => simp [intOf]; omega
        · clear hS
          go_wp2
          all_goals (go_ret; exact ⟨RetB.mk _, rfl⟩)

end Go.Proofs.Qxb6627599a
