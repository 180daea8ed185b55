import Derived.Test.Qxb6627640aBytes
import Derived.ProofKit
import Derived.OpenShut
import Derived.ShutString
import Derived.ChangeOld
import Derived.Below
import Derived.SizedLaws
import Derived.Deep.Fields
import Derived.Deep.Slices
namespace Go.Proofs.Qxb6627640a
open Go.RowKit Go.Deep Go.ChangeShapes

theorem add_none (b o j : Nat) : (⟨b, o, none⟩ : Addr).add j = ⟨b, o + j, none⟩ := by unfold Addr.add; split <;> simp_all

section
variable {H : Type} {enc : TypeId × Value → H} {P : Program} {w : World} {base : Nat} {held : Bool}

/-- A slice of structs of one-cell fields, opened: every element's field lies in a cell of its own, with its reading. -/
theorem open_rows {t e : TypeId} {fs : Array Field} {ao : Option Addr} {len cap fuel : Nat} {x : DataW H × List MemPlace} (ht : P.underlying t = some (.slice e)) (he : P.underlying e = some (.struct fs))
    (hone : oneCellFields P fs = true) (hC : P.cellsOf e = fs.size) (hpos : 0 < fs.size) (h : DataW.trod enc P w base (fun _ => true) held fuel t [.slice ao len cap] = some x) :
    len ≤ cap ∧ cap ≤ maxLen ∧ ((ao = none ∧ len = 0 ∧ cap = 0) ∨ ∃ a el sp, ao = some a ∧ x.1 = .slice el sp ∧ el.length + sp.length = cap) ∧
    ∀ k, k < len → ∃ (b off n : Nat) (V : Nat → Value), ao = some ⟨b, off, none⟩ ∧ b < w.heap.size ∧ ∀ (i : Nat) (f : Field), fs[i]? = some f →
      w.cell? ⟨b, off + k * fs.size + i, none⟩ = some (V i) ∧ ∃ y, DataW.trod enc P w base (fun _ => true) held n f.type [V i] = some y := by
  rcases open_slice ht h with ⟨hcs, _⟩ | ⟨a, l, c, m, n, D, Pl, hcs, hb, hl, hm, hmm, rfl, hx⟩
  · simp only [List.cons.injEq, Value.slice.injEq, and_true] at hcs
    obtain ⟨rfl, rfl, rfl⟩ := hcs
    exact ⟨Nat.le_refl _, Nat.zero_le _, Or.inl ⟨rfl, rfl, rfl⟩, fun k hk => absurd hk (by omega)⟩
  · simp only [List.cons.injEq, Value.slice.injEq, and_true] at hcs
    obtain ⟨rfl, rfl, rfl⟩ := hcs
    simp only [if_true] at hmm
    subst hmm
    refine ⟨hl, hm, Or.inr ⟨a, _, _, rfl, rfl, by simp; omega⟩, fun k hk => ?_⟩
    obtain ⟨cs', h1, h2⟩ := hx k (by omega)
    obtain ⟨_, hlen, hcell⟩ := World.cells?_some h1
    rw [hC] at hlen hcell
    obtain ⟨xs, n', _, _, _, hxl, hf⟩ := DataW.trod_struct he h2
    obtain ⟨b, o, spot⟩ := a
    obtain ⟨cs0, h10, _⟩ := hx 0 (by omega)
    obtain ⟨_, hlen0, hcell0⟩ := World.cells?_some h10
    rw [hC] at hlen0 hcell0
    have h0 := hcell0 0 hpos
    rw [List.getElem?_eq_getElem (by omega)] at h0
    have hspot : spot = none := by simpa [Addr.add] using World.cell?_spot h0
    subst hspot
    have hblk := block_lt_of_cell h0
    refine ⟨b, o, n', fun i => cs'.getD i undef, rfl, by simpa [Addr.add] using hblk, fun i f hi => ?_⟩
    have hlt : i < fs.size := (Array.getElem?_eq_some_iff.1 hi).1
    obtain ⟨ho, hc1⟩ := hone_of hone i f hi
    have g := hf i f hi
    rw [ho, hc1] at g
    rw [take1_drop cs' i undef (by omega), List.getElem?_eq_getElem (by omega)] at g
    refine ⟨?_, _, g⟩
    have := hcell i hlt
    rw [List.getElem?_eq_getElem (by omega)] at this
    have e1 : ((⟨b, o, none⟩ : Addr).add (k * fs.size)).add i = ⟨b, o + k * fs.size + i, none⟩ := by rw [add_none, add_none]
    rw [e1] at this
    rw [this]
    simp [List.getD, List.getElem?_eq_getElem (show i < cs'.length by omega)]
end

theorem Try.cells25 : Try.prog.cellsOf 25 = 2 := by kernel_rfl

theorem open_ops {H : Type} {enc : TypeId × Value → H} {w : World} {base : Nat} {held : Bool} {ao : Option Addr} {len cap fuel : Nat} {x : DataW H × List MemPlace}
    (h : DataW.trod enc Try.prog w base (fun _ => true) held fuel 22 [.slice ao len cap] = some x) : len ≤ maxLen ∧ ∃ Ks Pu, OpsAt w ao len Ks Pu := by
  obtain ⟨h1, h2, h3, h4⟩ := open_rows Try.underlying22 Try.underlying25 (by kernel_rfl) Try.cells25 (by decide) h
  refine ⟨Nat.le_trans h1 h2, ?_⟩
  have key : ∀ k, k < len → ∃ m : ByteArray × Bool, ∃ b off, ao = some ⟨b, off, none⟩ ∧ w.cell? ⟨b, off + k * 2, none⟩ = some (.string m.1) ∧ w.cell? ⟨b, off + k * 2 + 1, none⟩ = some (.bool m.2) ∧ m.1.size ≤ maxLen ∧ b < w.heap.size := by
    intro k hk
    obtain ⟨b, off, n, V, ha, hb, hf⟩ := h4 k hk
    obtain ⟨c0, y0, t0⟩ := hf 0 _ rfl
    obtain ⟨c1, y1, t1⟩ := hf 1 _ rfl
    obtain ⟨s0, e0, _, z0⟩ := DataW.trod_string Try.underlying9 t0
    obtain ⟨b1, e1, _⟩ := DataW.trod_bool Try.underlying4 t1
    simp only [List.cons.injEq, and_true] at e0 e1
    rw [e0] at c0
    rw [e1] at c1
    exact ⟨(s0, b1), b, off, ha, c0, c1, z0, hb⟩
  have : Inhabited (ByteArray × Bool) := ⟨(⟨#[]⟩, false)⟩
  obtain ⟨M, hM⟩ := choose_lt key
  exact ⟨fun k => (M k).1, fun k => (M k).2, hM⟩
end Go.Proofs.Qxb6627640a
