import Derived.Test.Qxb6627703aSort
import Derived.Maps.Own
import Derived.Deep.DeepCutAuto
import Derived.Maps.OwnOps
import Derived.Maps.OwnSet
import Derived.Maps.Views
namespace Go.Proofs.Qxb6627703a
open Go.RowKit Go.WideMaps Go.Maps
set_option linter.unusedSimpArgs false

abbrev Sl := Option Addr × Nat × Nat
def vS (s : Sl) : Value := .slice s.1 s.2.1 s.2.2
def r0 : R6 := ((0, 0, 0), (0, 0, 0))
def fn (l : List R6) : Nat → R6 := fun j => l.getD j r0

theorem Grew.below {a b : World} (h : Grew a b) : Below a.heap.size a b := by
  have hs := h.size
  have hh := fun k hk => h.heap (k := k) hk
  obtain ⟨q, os, rfl⟩ := h
  exact ⟨rfl, rfl, rfl, hs, hh⟩

/-- The given map at key k. -/
structure InAt (w : World) (mv : Value) (k : Nat) (ok : Bool) (s : Sl) (l : List R6) : Prop where
  look : ∀ W, Below w.heap.size w W → (Instr.lookup 22 mv (.int .u16 k) false).run Try.prog W = .ok (vS s) W
  lookOk : ∀ W, Below w.heap.size w W → (Instr.lookup 22 mv (.int .u16 k) true).run Try.prog W = .ok (.tuple #[vS s, .bool ok]) W
  len : s.2.1 = l.length
  no : ok = false → l = []
  nil : s.1 = none → l = []
  runs : RunsAt w s.1 l.length (fn l)
  rng : ∀ x ∈ l, (0 ≤ x.1.2.2 ∧ x.1.2.2 < 65536) ∧ (0 ≤ x.2.2.2 ∧ x.2.2.2 < 65536)
def InMap (w : World) (mv : Value) (V : Nat → List R6) : Prop := ∀ k, k < 65536 → ∃ ok s, InAt w mv k ok s (V k)

theorem InMap.below {w w' : World} {mv : Value} {V : Nat → List R6} (h : InMap w mv V) (hb : Below w.heap.size w w') : InMap w' mv V := by
  intro k hk
  obtain ⟨ok, s, i⟩ := h k hk
  have hb' : ∀ W, Below w'.heap.size w' W → Below w.heap.size w W := fun W h => hb.trans (h.mono hb.size)
  exact ⟨ok, s, fun W h => i.look W (hb' W h), fun W h => i.lookOk W (hb' W h), i.len, i.no, i.nil, i.runs.below hb, i.rng⟩

theorem wrapU16 {k : Nat} (h : k < 65536) : IntKind.u16.wrap (k : Int) = k := by
  rw [IntKind.wrap_u16]; omega

/-- A bool was returned; where it is false no list is long. -/
def RetBig (V : Nat → List R6) (e : Ending) : Prop := ∃ b, e = .returned (.bool b) ∧ (b = false → ∀ k, k < 65536 → (V k).length ≤ 1048576)
theorem RetBig.yes (V : Nat → List R6) : RetBig V (.returned (.bool true)) := ⟨true, rfl, fun h => by cases h⟩
theorem RetBig.no {V : Nat → List R6} (h : ∀ k, k < 65536 → (V k).length ≤ 1048576) : RetBig V (.returned (.bool false)) := ⟨false, rfl, fun _ => h⟩
theorem big_succ {V : Nat → List R6} {k L : Nat} (h : ∀ j, j < k → (V j).length ≤ 1048576) (e : (V k).length = L) (hk : L ≤ 1048576) : ∀ j, j < k + 1 → (V j).length ≤ 1048576 := by
  intro j hj
  by_cases e : j = k
  · subst e; omega
  · exact h j (by omega)

set_option maxRecDepth 100000 in
set_option maxHeartbeats 1000000 in
theorem tooBig4 (mv : Value) (V : Nat → List R6) (w : World) (hM : InMap w mv V) :
    Calls Try.prog 4 #[mv] w fun e w' => RetBig V e ∧ w' = w := by
  go_enter Try.func4, Try.ntmps4
  go_wp2
  go_loop [3, 4] (fun t i => ∃ (m : Int) (k : Nat), 0 ≤ m ∧ m ≤ 1048576 ∧ (k : Int) ≤ 65536 ∧ t = .int .i64 m ∧ i = .int .i64 k ∧ Hid (∀ j, j < k → (V j).length ≤ 1048576)) (fun _ i => (65536 - intOf i).toNat)
  case atStart => exact ⟨0, 0, by omega, by omega, by omega, rfl, rfl, fun j hj => absurd hj (by omega)⟩
  case round =>
    obtain ⟨m, k, hm0, hm1, hk, rfl, rfl, HS⟩ := hrel
    by_cases hlt : (k : Int) < 65536
    · obtain ⟨ok, s, hI⟩ := hM k (by omega)
      have hl := hI.look w (Below.refl _ _)
      have hlen := hI.len
      have hw := wrapU16 (k := k) (by omega)
      unfold vS at hl
      rw [hlen] at hl
      obtain ⟨L, hL⟩ : ∃ L, L = (V k).length := ⟨_, rfl⟩
      rw [← hL] at hl
      have HL : Hid ((V k).length = L) := hL.symm
      clear hI hM hL hlen
      go_upto_region 6 with fail
      clear hl hw
      obtain ⟨l, hl⟩ : ∃ l : Int, l = (L : Int) := ⟨_, rfl⟩
      have hl0 : 0 ≤ l := by omega
      have HLl : Hid (l = (L : Int)) := hl
      rw [← hl]
      have HK : Hid ((k : Int) < 65536) := hlt
      clear hl hlt hk
      go_upto_if 16 with fail
      cases hd : decide (1048576 < l) with
      | true =>
        go_wp2
        go_ret
        exact ⟨RetBig.yes _, rfl⟩
      | false =>
        have h1 := of_decide_eq_false hd
        clear hd
        go_upto_if 22 with fail
        cases hd2 : decide (1048576 < m + 48 * l) with
        | true =>
          go_wp2
          go_ret
          exact ⟨RetBig.yes _, rfl⟩
        | false =>
          have h2 := of_decide_eq_false hd2
          clear hd2
          have hk' : (k : Int) < 65536 := HK.out
          have hk2 : k < 65536 := by omega
          go_wp2
          go_round
          case rel => exact ⟨_, k + 1, by omega, by omega, by omega, rfl, by go_num, big_succ HS.out HL.out (by have := HLl.out; omega)⟩
          case measure => simp [intOf]; omega
    · clear hM
      go_wp2
      go_ret
      exact ⟨RetBig.no (fun j hj => HS.out j (by omega)), rfl⟩

end Go.Proofs.Qxb6627703a
