import Derived.Test.Qxb6627675aRows
import Derived.WalkKit
import Derived.WalkSpells
import Derived.WalkLawsBesides
import Derived.Deep.QuietTactic
import Derived.BigQuiet
namespace Go.Proofs.Qxb6627675a
open Go.RowKit
set_option linter.unusedSimpArgs false

/-- The strings nm 0 .. nm (len - 1) lie from address ao on. -/
def StrsAt (w : World) (ao : Option Addr) (len : Nat) (nm : Nat → ByteArray) : Prop :=
  ∀ k, k < len → ∃ b off, ao = some ⟨b, off, none⟩ ∧ w.cell? ⟨b, off + k, none⟩ = some (.string (nm k)) ∧ (nm k).size ≤ maxLen ∧ b < w.heap.size

theorem StrsAt.of {w w' : World} {ao : Option Addr} {len : Nat} {nm : Nat → ByteArray} (h : StrsAt w ao len nm) (hb : Below w.heap.size w w') : StrsAt w' ao len nm := by
  intro k hk
  obtain ⟨b, off, e, c0, z, hl⟩ := h k hk
  exact ⟨b, off, e, (hb.cell (p := ⟨b, off + k, none⟩) hl).trans c0, z, Nat.lt_of_lt_of_le hl hb.size⟩

def lst (n : Nat) (nm : Nat → ByteArray) : List ByteArray := (List.range n).map nm
theorem lst_succ (n : Nat) (nm : Nat → ByteArray) : lst (n + 1) nm = lst n nm ++ [nm n] := by simp [lst, List.range_succ]
theorem lst_length (n : Nat) (nm : Nat → ByteArray) : (lst n nm).length = n := by simp [lst]
theorem mem_lst {n : Nat} {nm : Nat → ByteArray} {s : ByteArray} : s ∈ lst n nm ↔ ∃ j, j < n ∧ nm j = s := by simp [lst]
/-- Is s on the list? -/
def inL (s : ByteArray) (l : List ByteArray) : Bool := l.any fun x => decide (x = s)
theorem inL_iff {s : ByteArray} {l : List ByteArray} : inL s l = true ↔ s ∈ l := by
  unfold inL
  rw [List.any_eq_true]
  constructor
  · rintro ⟨x, hx, e⟩
    rw [← of_decide_eq_true e]
    exact hx
  · intro h
    exact ⟨s, h, decide_eq_true rfl⟩
theorem inL_no {s : ByteArray} {l : List ByteArray} (h : s ∉ l) : inL s l = false := by
  cases e : inL s l with
  | false => rfl
  | true => exact absurd (inL_iff.1 e) h
def e0 : ByteArray := ⟨#[]⟩
theorem lst_getD (l : List ByteArray) : lst l.length (fun j => l.getD j e0) = l := by
  apply List.ext_getElem
  · simp [lst]
  · intro i h1 h2
    simp [lst, List.getD, List.getElem?_eq_getElem h2]

theorem str_eq {a b : ByteArray} (h : (a.toList == b.toList) = true) : a = b := by
  have h' := eq_of_beq h
  rw [ByteArray.toList_eq, ByteArray.toList_eq] at h'
  exact WideShapes.bytes_inj h'
theorem str_ne {a b : ByteArray} (h : (a.toList == b.toList) = false) : a ≠ b := by
  intro e; subst e; simp at h
theorem ne_str {a b : ByteArray} (h : a ≠ b) : (a.toList == b.toList) = false := by
  cases e : (a.toList == b.toList) with
  | false => rfl
  | true => exact absurd (str_eq e) h

def RetB (e : Ending) : Prop := ∃ bo, e = .returned (.bool bo)
theorem RetB.mk (bo : Bool) : RetB (.returned (.bool bo)) := ⟨bo, rfl⟩

set_option maxRecDepth 100000 in
set_option maxHeartbeats 1000000 in
theorem bytes5 (a1 a2 : Option Addr) (n1 c1 n2 c2 : Nat) (m1 m2 : Nat → ByteArray) (w : World) (h1 : n1 ≤ maxLen) (h2 : n2 ≤ maxLen) (hM1 : StrsAt w a1 n1 m1) (hM2 : StrsAt w a2 n2 m2) :
    Calls Try.prog 5 #[.slice a1 n1 c1, .slice a2 n2 c2] w fun e w' => RetB e ∧ w' = w := by
  unfold maxLen at *
  go_enter Try.func5, Try.ntmps5
  go_wp2
  iterate 1 (go_ret; exact ⟨RetB.mk _, rfl⟩)
  go_loop [5, 6] (fun n i => ∃ (m : Int) (k : Nat), 0 ≤ m ∧ m ≤ 1048576 ∧ k ≤ n1 ∧ n = .int .i64 m ∧ i = .int .i64 k) (fun _ i => n1 - (intOf i).toNat)
  case atStart => exact ⟨_, 0, by omega, by assumption, by omega, rfl, rfl⟩
  case round =>
    obtain ⟨m, k, hm0, hm1, hk, rfl, rfl⟩ := hrel
    by_cases hlt : k < n1
    · obtain ⟨b, off, rfl, cc, z0, _⟩ := hM1 k hlt
      unfold maxLen at *
      clear hM1 hM2
      go_wp2
      iterate 2 (go_ret; exact ⟨RetB.mk _, rfl⟩)
      go_round
      case rel => exact ⟨_, k + 1, by omega, by assumption, by omega, rfl, by go_num⟩
      case measure => simp [intOf]; omega
    · clear hM1
      go_wp2
      iterate 2 (go_ret; exact ⟨RetB.mk _, rfl⟩)
      go_loop [5, 7] (fun n i => ∃ (m : Int) (k : Nat), 0 ≤ m ∧ m ≤ 1048576 ∧ k ≤ n2 ∧ n = .int .i64 m ∧ i = .int .i64 k) (fun _ i => n2 - (intOf i).toNat)
      case atStart => exact ⟨_, 0, by omega, by assumption, by omega, rfl, rfl⟩
      case round =>
        obtain ⟨m, k, hm0, hm1, hk, rfl, rfl⟩ := hrel
        by_cases hlt2 : k < n2
        · obtain ⟨b, off, rfl, cc, z0, _⟩ := hM2 k hlt2
          unfold maxLen at *
          clear hM2
          go_wp2
          iterate 2 (go_ret; exact ⟨RetB.mk _, rfl⟩)
          go_round
          case rel => exact ⟨_, k + 1, by omega, by assumption, by omega, rfl, by go_num⟩
          case measure => simp [intOf]; omega
        · clear hM2
          go_wp2
          all_goals (go_ret; exact ⟨RetB.mk _, rfl⟩)

set_option maxRecDepth 100000 in
set_option maxHeartbeats 1000000 in
theorem bytes9 (a1 a2 a3 : Option Addr) (n1 c1 n2 c2 n3 c3 : Nat) (m1 m2 m3 : Nat → ByteArray) (w : World) (h1 : n1 ≤ maxLen) (h2 : n2 ≤ maxLen) (h3 : n3 ≤ maxLen) (hM1 : StrsAt w a1 n1 m1) (hM2 : StrsAt w a2 n2 m2) (hM3 : StrsAt w a3 n3 m3) :
    Calls Try.prog 9 #[.slice a1 n1 c1, .slice a2 n2 c2, .slice a3 n3 c3] w fun e w' => RetB e ∧ w' = w := by
  unfold maxLen at *
  go_enter Try.func9, Try.ntmps9
  go_wp2
  iterate 1 (go_ret; exact ⟨RetB.mk _, rfl⟩)
  go_loop [7, 8] (fun n i => ∃ (m : Int) (k : Nat), 0 ≤ m ∧ m ≤ 1048576 ∧ k ≤ n1 ∧ n = .int .i64 m ∧ i = .int .i64 k) (fun _ i => n1 - (intOf i).toNat)
  case atStart => exact ⟨_, 0, by omega, by assumption, by omega, rfl, rfl⟩
  case round =>
    obtain ⟨m, k, hm0, hm1, hk, rfl, rfl⟩ := hrel
    by_cases hlt : k < n1
    · obtain ⟨b, off, rfl, cc, z0, _⟩ := hM1 k hlt
      unfold maxLen at *
      clear hM1 hM2 hM3
      go_wp2
      iterate 2 (go_ret; exact ⟨RetB.mk _, rfl⟩)
      go_round
      case rel => exact ⟨_, k + 1, by omega, by assumption, by omega, rfl, by go_num⟩
      case measure => simp [intOf]; omega
    · clear hM1
      go_wp2
      iterate 2 (go_ret; exact ⟨RetB.mk _, rfl⟩)
      go_loop [7, 9] (fun n i => ∃ (m : Int) (k : Nat), 0 ≤ m ∧ m ≤ 1048576 ∧ k ≤ n2 ∧ n = .int .i64 m ∧ i = .int .i64 k) (fun _ i => n2 - (intOf i).toNat)
      case atStart => exact ⟨_, 0, by omega, by assumption, by omega, rfl, rfl⟩
      case round =>
        obtain ⟨m, k, hm0, hm1, hk, rfl, rfl⟩ := hrel
        by_cases hlt2 : k < n2
        · obtain ⟨b, off, rfl, cc, z0, _⟩ := hM2 k hlt2
          unfold maxLen at *
          clear hM2 hM3
          go_wp2
          iterate 2 (go_ret; exact ⟨RetB.mk _, rfl⟩)
          go_round
          case rel => exact ⟨_, k + 1, by omega, by assumption, by omega, rfl, by go_num⟩
          case measure => simp [intOf]; omega
        · clear hM2
          go_wp2
          iterate 2 (go_ret; exact ⟨RetB.mk _, rfl⟩)
          go_loop [7, 10] (fun n i => ∃ (m : Int) (k : Nat), 0 ≤ m ∧ m ≤ 1048576 ∧ k ≤ n3 ∧ n = .int .i64 m ∧ i = .int .i64 k) (fun _ i => n3 - (intOf i).toNat)
          case atStart => exact ⟨_, 0, by omega, by assumption, by omega, rfl, rfl⟩
          case round =>
            obtain ⟨m, k, hm0, hm1, hk, rfl, rfl⟩ := hrel
            by_cases hlt3 : k < n3
            · obtain ⟨b, off, rfl, cc, z0, _⟩ := hM3 k hlt3
              unfold maxLen at *
              clear hM3
              go_wp2
              iterate 2 (go_ret; exact ⟨RetB.mk _, rfl⟩)
              go_round
              case rel => exact ⟨_, k + 1, by omega, by assumption, by omega, rfl, by go_num⟩
              case measure => simp [intOf]; omega
            · clear hM3
              go_wp2
              all_goals (go_ret; exact ⟨RetB.mk _, rfl⟩)

/-- A small number was returned. -/
def RetI (e : Ending) : Prop := ∃ r : Int, 0 ≤ r ∧ r ≤ 4194304 ∧ e = .returned (.int .i64 r)

set_option maxRecDepth 100000 in
set_option maxHeartbeats 1000000 in
theorem addBytes6 (acc : Int) (a1 : Option Addr) (n1 c1 : Nat) (m1 : Nat → ByteArray) (w : World) (h0 : 0 ≤ acc) (h00 : acc ≤ 4194304) (h1 : n1 ≤ maxLen) (hM1 : StrsAt w a1 n1 m1) :
    Calls Try.prog 6 #[.int .i64 acc, .slice a1 n1 c1] w fun e w' => RetI e ∧ w' = w := by
  unfold maxLen at *
  go_enter Try.func6, Try.ntmps6
  go_wp2
  go_loop [0, 5] (fun n i => ∃ (m : Int) (k : Nat), 0 ≤ m ∧ m ≤ 4194304 ∧ k ≤ n1 ∧ n = .int .i64 m ∧ i = .int .i64 k) (fun _ i => n1 - (intOf i).toNat)
  case atStart => exact ⟨_, 0, h0, h00, by omega, rfl, rfl⟩
  case round =>
    clear h0 h00
    obtain ⟨m, k, hm0, hm1, hk, rfl, rfl⟩ := hrel
    by_cases hlt : k < n1
    · obtain ⟨b, off, rfl, cc, z0, _⟩ := hM1 k hlt
      unfold maxLen at *
      clear hM1
      by_cases hg1 : 1048576 < m
      · go_wp2
        go_ret
        exact ⟨⟨_, by omega, by omega, rfl⟩, rfl⟩
      · by_cases hg2 : 1048576 < (m1 k).size
        · go_wp2
          go_ret
          exact ⟨⟨_, by omega, by omega, rfl⟩, rfl⟩
        · go_wp2
          go_round
          case rel => exact ⟨_, k + 1, by omega, by omega, by omega, rfl, by go_num⟩
          case measure => simp [intOf]; omega
    · clear hM1
      go_wp2
      go_ret
      exact ⟨⟨_, hm0, hm1, rfl⟩, rfl⟩

set_option maxRecDepth 100000 in
set_option maxHeartbeats 1000000 in
theorem holds8 (a1 : Option Addr) (n1 c1 : Nat) (m1 : Nat → ByteArray) (s : ByteArray) (w : World) (h1 : n1 ≤ maxLen) (hM1 : StrsAt w a1 n1 m1) :
    Calls Try.prog 8 #[.slice a1 n1 c1, .string s] w fun e w' => e = .returned (.bool (inL s (lst n1 m1))) ∧ w' = w := by
  unfold maxLen at *
  have HY : Hid (∀ j, j < n1 → m1 j = s → inL s (lst n1 m1) = true) := fun j hj e => inL_iff.2 (mem_lst.2 ⟨j, hj, e⟩)
  have HN : Hid ((∀ j, j < n1 → m1 j ≠ s) → inL s (lst n1 m1) = false) := fun h => inL_no (fun hm => by obtain ⟨j, hj, e⟩ := mem_lst.1 hm; exact h j hj e)
  generalize inL s (lst n1 m1) = r at HY HN ⊢
  go_enter Try.func8, Try.ntmps8
  go_wp2
  go_loop [5] (fun i => ∃ k : Nat, k ≤ n1 ∧ i = .int .i64 k ∧ Hid (∀ j, j < k → m1 j ≠ s)) (fun i => n1 - (intOf i).toNat)
  case atStart => exact ⟨0, by omega, rfl, fun j hj => absurd hj (by omega)⟩
  case round =>
    obtain ⟨k, hk, rfl, HX⟩ := hrel
    by_cases hlt : k < n1
    · obtain ⟨b, off, rfl, cc, z0, _⟩ := hM1 k hlt
      clear hM1
      go_wp2
      · have he : ((m1 k).toList == s.toList) = true := by assumption
        have hr := HY.out k hlt (str_eq he)
        clear HY HN
        subst hr
        go_ret
        exact ⟨rfl, rfl⟩
      · have he : ((m1 k).toList == s.toList) = false := by assumption
        go_round
        case rel => exact ⟨k + 1, by omega, by go_num, fun j hj => by
          by_cases e : j = k
          · subst e; exact str_ne he
          · exact HX.out j (by omega)⟩
        case measure => simp [intOf]; omega
    · clear hM1
      have hr := HN.out (fun j hj => HX.out j (by omega))
      clear HY HN
      subst hr
      go_wp2
      go_ret
      exact ⟨rfl, rfl⟩

set_option maxRecDepth 100000 in
set_option maxHeartbeats 1000000 in
theorem same11 (a1 a2 : Option Addr) (n c1 c2 : Nat) (m1 m2 : Nat → ByteArray) (w : World) (h1 : n ≤ maxLen) (hM1 : StrsAt w a1 n m1) (hM2 : StrsAt w a2 n m2) (hs : ∀ j, j < n → m1 j = m2 j) :
    Calls Try.prog 11 #[.slice a1 n c1, .slice a2 n c2] w fun e w' => e = .returned (.bool true) ∧ ∃ q, w' = w.drewN q := by
  unfold maxLen at *
  have HS : Hid _ := hs
  clear hs
  go_enter Try.func11, Try.ntmps11
  go_wp2
  go_loopw [5] (fun i wr => ∃ k q : Nat, k ≤ n ∧ i = .int .i64 k ∧ wr = w.drewN q) (fun i _ => n - (intOf i).toNat)
  case atStart => exact ⟨0, 0, by omega, rfl, rfl⟩
  case round =>
    obtain ⟨k, q, hk, rfl, rfl⟩ := hrel
    by_cases hlt : k < n
    · obtain ⟨b, off, rfl, cc, z0, _⟩ := hM1 k hlt
      obtain ⟨b2, off2, rfl, cc2, z2, _⟩ := hM2 k hlt
      rw [← HS.out k hlt] at cc2
      clear hM1 hM2 z0 z2
      go_wp2
      go_quiet (fail)
      go_wp2
      go_roundw
      case rel => exact ⟨k + 1, _, by omega, by go_num, rfl⟩
      case measure => simp [intOf]; omega
    · clear hM1 hM2
      go_wp2
      go_ret
      exact ⟨rfl, _, rfl⟩
end Go.Proofs.Qxb6627675a
