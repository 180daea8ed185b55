import Derived.Test.Qxb6627599aBytes
namespace Go.Proofs.Qxb6627599a
open Go.RowKit

set_option maxRecDepth 100000 in
set_option maxHeartbeats 1000000 in
theorem within6 (pw id : ByteArray) (ao ao2 : Option Addr) (len cap len2 cap2 : Nat) (M : Nat → Mon) (w : World)
    (hpw : pw.size ≤ maxLen) (hid : id.size ≤ maxLen) (hl : len ≤ maxLen) (hl2 : len2 ≤ maxLen) (hM : MonsAt w ao len M) (hS : SetsAt w ao2 len2) :
    Calls Try.prog 6 #[.string pw, .string id, .slice ao len cap, .slice ao2 len2 cap2] w fun e w' => RetB e ∧ Below w.heap.size w w' := by
  unfold maxLen at *
  go_enter Try.func6, Try.ntmps6
  go_wp2
  iterate 2 (go_ret; exact ⟨RetB.mk _, Below.refl _ _⟩)
  go_loopw [9, 10, 11] (fun n o i wr => ∃ (m : Int) (k : Nat), 0 ≤ m ∧ m ≤ 1048576 ∧ k ≤ len ∧ n = .int .i64 m ∧ o = .bool true ∧ i = .int .i64 k ∧ Below w.heap.size w wr) (fun _ _ i _ => len - (intOf i).toNat)
  case atStart => exact ⟨_, 0, by omega, by omega, by omega, rfl, rfl, rfl, Below.refl _ _⟩
  case round =>
    obtain ⟨m, k, hm0, hm1, hk, rfl, rfl, rfl, hb⟩ := hrel
    by_cases hlt : k < len
    · obtain ⟨b, off, rfl, c0, c1, c2, c3, z0, z1, z2, z3, hbl⟩ := hM k hlt
      have d0 := (hb.cell (p := ⟨b, off + k * 4, none⟩) hbl).trans c0
      have d1 := (hb.cell (p := ⟨b, off + k * 4 + 1, none⟩) hbl).trans c1
      have d2 := (hb.cell (p := ⟨b, off + k * 4 + 2, none⟩) hbl).trans c2
      have d3 := (hb.cell (p := ⟨b, off + k * 4 + 3, none⟩) hbl).trans c3
      unfold maxLen at *
      clear hM hS c0 c1 c2 c3
      go_wp2
      iterate 5 (go_ret; exact ⟨RetB.mk _, hb.alloc hb.size _⟩)
      go_roundw
      case rel => exact ⟨_, k + 1, by omega, by omega, by omega, rfl, rfl, by go_num, hb.alloc hb.size _⟩
      case measure => simp [intOf]; omega
    · clear hM
      go_wp2
      go_loopw [9, 10, 13] (fun n o i wr => ∃ (m : Int) (k : Nat), 0 ≤ m ∧ m ≤ 1048576 ∧ k ≤ len2 ∧ n = .int .i64 m ∧ o = .bool true ∧ i = .int .i64 k ∧ Below w.heap.size w wr) (fun _ _ i _ => len2 - (intOf i).toNat)
      case atStart => exact ⟨_, 0, by omega, by omega, by omega, rfl, rfl, rfl, by assumption⟩
      case round =>
        clear hb
        obtain ⟨m, k, hm0, hm1, hk, rfl, rfl, rfl, hb⟩ := hrel
        by_cases hlt2 : k < len2
        · obtain ⟨b, off, rfl, s0, s1, s6, n2, n3, n4, pa, c0, c1, c2, c3, c4, c5, c6, z0, z1, z6, hbl, _⟩ := hS k hlt2
          have d0 := (hb.cell (p := ⟨b, off + k * 7, none⟩) hbl).trans c0
          have d1 := (hb.cell (p := ⟨b, off + k * 7 + 1, none⟩) hbl).trans c1
          have d2 := (hb.cell (p := ⟨b, off + k * 7 + 2, none⟩) hbl).trans c2
          have d3 := (hb.cell (p := ⟨b, off + k * 7 + 3, none⟩) hbl).trans c3
          have d4 := (hb.cell (p := ⟨b, off + k * 7 + 4, none⟩) hbl).trans c4
          have d5 := (hb.cell (p := ⟨b, off + k * 7 + 5, none⟩) hbl).trans c5
          have d6 := (hb.cell (p := ⟨b, off + k * 7 + 6, none⟩) hbl).trans c6
          unfold maxLen at *
          clear hS c0 c1 c2 c3 c4 c5 c6
          go_wp2
          iterate 4 (go_ret; exact ⟨RetB.mk _, hb.alloc hb.size _⟩)
          go_roundw
          case rel => exact ⟨_, k + 1, by omega, by omega, by omega, rfl, rfl, by go_num, hb.alloc hb.size _⟩
          case measure => simp [intOf]; omega
        · clear hS
          go_wp2
          go_ret
          exact ⟨RetB.mk _, hb⟩
end Go.Proofs.Qxb6627599a
