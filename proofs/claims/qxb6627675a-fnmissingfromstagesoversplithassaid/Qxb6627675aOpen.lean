import Derived.Test.Qxb6627675aKeeps
import Derived.ProofKit
import Derived.OpenShut
import Derived.ShutString
import Derived.ChangeOld
import Derived.Below
import Derived.Deep.Strs
namespace Go.Proofs.Qxb6627675a
open Go.RowKit Go.Deep Go.ChangeShapes

theorem Try.cells9 : Try.prog.cellsOf 9 = 1 := by kernel_rfl

theorem open_names {H : Type} {enc : TypeId × Value → H} {w : World} {base : Nat} {held : Bool} {ao : Option Addr} {len cap fuel : Nat} {x : DataW H × List MemPlace}
    (h : DataW.trod enc Try.prog w base (fun _ => true) held fuel 22 [.slice ao len cap] = some x) : len ≤ maxLen ∧ NilZ ao len ∧ ∃ nm, StrsAt w ao len nm := by
  rcases open_strs Try.underlying22 Try.underlying9 Try.cells9 h with ⟨hcs, _⟩ | ⟨a, l, c, m, Sx, hcs, hb, hl, hm, hmm, _, hx⟩
  · simp only [List.cons.injEq, Value.slice.injEq, and_true] at hcs
    obtain ⟨rfl, rfl, rfl⟩ := hcs
    exact ⟨Nat.zero_le _, fun _ => rfl, fun _ => e0, fun k hk => absurd hk (by omega)⟩
  · simp only [List.cons.injEq, Value.slice.injEq, and_true] at hcs
    obtain ⟨rfl, rfl, rfl⟩ := hcs
    simp only [if_true] at hmm
    subst hmm
    refine ⟨Nat.le_trans hl hm, (by intro e; cases e), Sx, fun k hk => ?_⟩
    obtain ⟨b, o, spot⟩ := a
    have h0 := (hx 0 (by omega)).1
    have hspot : spot = none := by simpa [Addr.add] using World.cell?_spot h0
    subst hspot
    have hblk := block_lt_of_cell h0
    obtain ⟨hc, hz⟩ := hx k (by omega)
    have ea : ∀ j, (⟨b, o, none⟩ : Addr).add j = ⟨b, o + j, none⟩ := fun j => by unfold Addr.add; split <;> simp_all
    rw [ea] at hc hblk
    exact ⟨b, o, rfl, hc, hz, hblk⟩
end Go.Proofs.Qxb6627675a
