import Derived.Test.Qxb6627599aBytes
import Derived.ProofKit
import Derived.OpenShut
import Derived.ShutString
import Derived.ChangeOld
import Derived.Below
import Derived.SizedLaws
import Derived.Deep.Fields
import Derived.Deep.Slices
namespace Go.Proofs.Qxb6627599a
open Go.RowKit Go.Deep Go.ChangeShapes

theorem add_none (b o j : Nat) : (⟨b, o, none⟩ : Addr).add j = ⟨b, o + j, none⟩ := by unfold Addr.add; split <;> simp_all

section
variable {H : Type} {enc : TypeId × Value → H} {P : Program} {w : World} {base : Nat} {held : Bool}

/-- A slice of structs of one-cell fields, opened: every element's field lies in a cell of its own, with its reading. -/
theorem open_rows {t e : TypeId} {fs : Array Field} {ao : Option Addr} {len cap fuel : Nat} {x : DataW H × List MemPlace} (ht : P.underlying t = some (.slice e)) (he : P.underlying e = some (.struct fs))
    (hone : oneCellFields P fs = true) (hC : P.cellsOf e = fs.size) (hpos : 0 < fs.size) (h : DataW.trod enc P w base (fun _ => true) held fuel t [.slice ao len cap] = some x) :
    len ≤ cap ∧ cap ≤ maxLen ∧ ((ao = none ∧ len = 0 ∧ cap = 0) ∨ ∃ a el sp, ao = some a ∧ x.1 = .slice el sp ∧ el.length + sp.length = cap) ∧
    ∀ k, k < len → ∃ (b off n : Nat) (V : Nat → Value), ao = some ⟨b, off, none⟩ ∧ b < w.heap.size ∧ ∀ (i : Nat) (f : Field), fs[i]? = some f →
      w.cell? ⟨b, off + k * fs.size + i, none⟩ = some (V i) ∧ ∃ y, DataW.trod enc P w base (fun _ => true) held n f.type [V i] = some y := by
  rcases open_slice ht h with ⟨hcs, _⟩ | ⟨a, l, c, m, n, D, Pl, hcs, hb, hl, hm, hmm, rfl, hx⟩
  · simp only [List.cons.injEq, Value.slice.injEq, and_true] at hcs
    obtain ⟨rfl, rfl, rfl⟩ := hcs
    exact ⟨Nat.le_refl _, Nat.zero_le _, Or.inl ⟨rfl, rfl, rfl⟩, fun k hk => absurd hk (by omega)⟩
  · simp only [List.cons.injEq, Value.slice.injEq, and_true] at hcs
    obtain ⟨rfl, rfl, rfl⟩ := hcs
    simp only [if_true] at hmm
    subst hmm
    refine ⟨hl, hm, Or.inr ⟨a, _, _, rfl, rfl, by simp; omega⟩, fun k hk => ?_⟩
    obtain ⟨cs', h1, h2⟩ := hx k (by omega)
    obtain ⟨_, hlen, hcell⟩ := World.cells?_some h1
    rw [hC] at hlen hcell
    obtain ⟨xs, n', _, _, _, hxl, hf⟩ := DataW.trod_struct he h2
    obtain ⟨b, o, spot⟩ := a
    obtain ⟨cs0, h10, _⟩ := hx 0 (by omega)
    obtain ⟨_, hlen0, hcell0⟩ := World.cells?_some h10
    rw [hC] at hlen0 hcell0
    have h0 := hcell0 0 hpos
    rw [List.getElem?_eq_getElem (by omega)] at h0
    have hspot : spot = none := by simpa [Addr.add] using World.cell?_spot h0
    subst hspot
    have hblk := block_lt_of_cell h0
    refine ⟨b, o, n', fun i => cs'.getD i undef, rfl, by simpa [Addr.add] using hblk, fun i f hi => ?_⟩
    have hlt : i < fs.size := (Array.getElem?_eq_some_iff.1 hi).1
    obtain ⟨ho, hc1⟩ := hone_of hone i f hi
    have g := hf i f hi
    rw [ho, hc1] at g
    rw [take1_drop cs' i undef (by omega), List.getElem?_eq_getElem (by omega)] at g
    refine ⟨?_, _, g⟩
    have := hcell i hlt
    rw [List.getElem?_eq_getElem (by omega)] at this
    have e1 : ((⟨b, o, none⟩ : Addr).add (k * fs.size)).add i = ⟨b, o + k * fs.size + i, none⟩ := by rw [add_none, add_none]
    rw [e1] at this
    rw [this]
    simp [List.getD, List.getElem?_eq_getElem (show i < cs'.length by omega)]
end

theorem Try.cells36 : Try.prog.cellsOf 36 = 4 := by kernel_rfl
theorem Try.cells41 : Try.prog.cellsOf 41 = 7 := by kernel_rfl
theorem Try.bytes36 : Try.prog.bytesOf 36 = 64 := by kernel_rfl
theorem Try.bytes41 : Try.prog.bytesOf 41 = 80 := by kernel_rfl
theorem Try.cells4 : Try.prog.cellsOf 4 = 1 := by kernel_rfl

theorem open_mons {H : Type} {enc : TypeId × Value → H} {w : World} {base : Nat} {held : Bool} {ao : Option Addr} {len cap fuel : Nat} {x : DataW H × List MemPlace}
    (h : DataW.trod enc Try.prog w base (fun _ => true) held fuel 22 [.slice ao len cap] = some x) :
    len ≤ cap ∧ ((ao = none ∧ len = 0 ∧ cap = 0) ∨ ∃ a el sp, ao = some a ∧ x.1 = .slice el sp ∧ el.length + sp.length = cap) ∧ ∃ M, MonsAt w ao len M := by
  obtain ⟨h1, h2, h3, h4⟩ := open_rows Try.underlying22 Try.underlying36 (by kernel_rfl) Try.cells36 (by decide) h
  refine ⟨h1, h3, ?_⟩
  have key : ∀ k, k < len → ∃ m : Mon, ∃ b off, ao = some ⟨b, off, none⟩ ∧ w.cell? ⟨b, off + k * 4, none⟩ = some (.string m.i) ∧ w.cell? ⟨b, off + k * 4 + 1, none⟩ = some (.string m.l)
    ∧ w.cell? ⟨b, off + k * 4 + 2, none⟩ = some (.string m.p) ∧ w.cell? ⟨b, off + k * 4 + 3, none⟩ = some (.string m.d) ∧ m.i.size ≤ maxLen ∧ m.l.size ≤ maxLen ∧ m.p.size ≤ maxLen ∧ m.d.size ≤ maxLen ∧ b < w.heap.size := by
    intro k hk
    obtain ⟨b, off, n, V, ha, hb, hf⟩ := h4 k hk
    obtain ⟨c0, y0, t0⟩ := hf 0 _ rfl
    obtain ⟨c1, y1, t1⟩ := hf 1 _ rfl
    obtain ⟨c2, y2, t2⟩ := hf 2 _ rfl
    obtain ⟨c3, y3, t3⟩ := hf 3 _ rfl
    obtain ⟨s0, e0, _, z0⟩ := DataW.trod_string Try.underlying9 t0
    obtain ⟨s1, e1, _, z1⟩ := DataW.trod_string Try.underlying9 t1
    obtain ⟨s2, e2, _, z2⟩ := DataW.trod_string Try.underlying9 t2
    obtain ⟨s3, e3, _, z3⟩ := DataW.trod_string Try.underlying9 t3
    simp only [List.cons.injEq, and_true] at e0 e1 e2 e3
    rw [e0] at c0
    rw [e1] at c1
    rw [e2] at c2
    rw [e3] at c3
    exact ⟨⟨s0, s1, s2, s3⟩, b, off, ha, c0, c1, c2, c3, z0, z1, z2, z3, hb⟩
  have : Inhabited Mon := ⟨⟨⟨#[]⟩, ⟨#[]⟩, ⟨#[]⟩, ⟨#[]⟩⟩⟩
  obtain ⟨M, hM⟩ := choose_lt key
  exact ⟨M, hM⟩

theorem open_sets {H : Type} {enc : TypeId × Value → H} {w : World} {base : Nat} {held : Bool} {ao : Option Addr} {len cap fuel : Nat} {x : DataW H × List MemPlace}
    (h : DataW.trod enc Try.prog w base (fun _ => true) held fuel 23 [.slice ao len cap] = some x) :
    len ≤ cap ∧ ((ao = none ∧ len = 0 ∧ cap = 0) ∨ ∃ a el sp, ao = some a ∧ x.1 = .slice el sp ∧ el.length + sp.length = cap) ∧ SetsAt w ao len := by
  obtain ⟨h1, h2, h3, h4⟩ := open_rows Try.underlying23 Try.underlying41 (by kernel_rfl) Try.cells41 (by decide) h
  refine ⟨h1, h3, ?_⟩
  intro k hk
  obtain ⟨b, off, n, V, ha, hb, hf⟩ := h4 k hk
  obtain ⟨c0, y0, t0⟩ := hf 0 _ rfl
  obtain ⟨c1, y1, t1⟩ := hf 1 _ rfl
  obtain ⟨c2, y2, t2⟩ := hf 2 _ rfl
  obtain ⟨c3, y3, t3⟩ := hf 3 _ rfl
  obtain ⟨c4, y4, t4⟩ := hf 4 _ rfl
  obtain ⟨c5, y5, t5⟩ := hf 5 _ rfl
  obtain ⟨c6, y6, t6⟩ := hf 6 _ rfl
  obtain ⟨s0, e0, _, z0⟩ := DataW.trod_string Try.underlying9 t0
  obtain ⟨s1, e1, _, z1⟩ := DataW.trod_string Try.underlying9 t1
  obtain ⟨n2, e2, _, _⟩ := DataW.trod_int Try.underlying3 t2
  obtain ⟨n3, e3, _, _⟩ := DataW.trod_int Try.underlying3 t3
  obtain ⟨n4, e4, _, _⟩ := DataW.trod_int Try.underlying3 t4
  obtain ⟨s6, e6, _, z6⟩ := DataW.trod_string Try.underlying9 t6
  simp only [List.cons.injEq, and_true] at e0 e1 e2 e3 e4 e6
  rw [e0] at c0
  rw [e1] at c1
  rw [e2] at c2
  rw [e3] at c3
  rw [e4] at c4
  rw [e6] at c6
  rcases DataW.trod_pointer Try.underlying39 t5 with ⟨e5, _⟩ | ⟨pa, cs', y, n', _, e5, _, hcells, hy⟩
  · simp only [List.cons.injEq, and_true] at e5
    rw [e5] at c5
    exact ⟨b, off, ha, s0, s1, s6, n2, n3, n4, none, c0, c1, c2, c3, c4, c5, c6, z0, z1, z6, hb, by intro a e; cases e⟩
  · simp only [List.cons.injEq, and_true] at e5
    rw [e5] at c5
    refine ⟨b, off, ha, s0, s1, s6, n2, n3, n4, some pa, c0, c1, c2, c3, c4, c5, c6, z0, z1, z6, hb, ?_⟩
    intro a e
    injection e with e
    subst e
    rw [Try.cells4] at hcells
    obtain ⟨bb, eb, _⟩ := DataW.trod_bool Try.underlying4 hy
    rw [eb] at hcells
    have hc := cell_of_cells?_one hcells
    exact ⟨World.cell?_spot hc, block_lt_of_cell hc, bb, hc⟩
end Go.Proofs.Qxb6627599a
