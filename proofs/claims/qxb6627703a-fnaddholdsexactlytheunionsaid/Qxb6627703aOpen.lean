import Derived.Test.Qxb6627703aLaw
import Derived.ProofKit
import Derived.OpenShut
import Derived.ShutString
import Derived.ChangeOld
import Derived.Deep.Fields
import Derived.Deep.Slices
import Derived.Deep.Strs
import Derived.WideKeyElems2
namespace Go.Proofs.Qxb6627703a
open Go.RowKit Go.Deep Go.ChangeShapes Go.Maps

theorem Try.cells26 : Try.prog.cellsOf 26 = 3 := by kernel_rfl
theorem Try.cells28 : Try.prog.cellsOf 28 = 6 := by kernel_rfl
theorem Try.cells2 : Try.prog.cellsOf 2 = 1 := by kernel_rfl
theorem Try.cells23 : Try.prog.cellsOf 23 = 1 := by kernel_rfl
theorem Try.cells24 : Try.prog.cellsOf 24 = 1 := by kernel_rfl

theorem add_none (b o j : Nat) : (⟨b, o, none⟩ : Addr).add j = ⟨b, o + j, none⟩ := by unfold Addr.add; split <;> simp_all

section
variable {H : Type} {enc : TypeId × Value → H} {w : World} {base : Nat} {sp : Nat → Bool} {held : Bool}

theorem len3 {l : List Value} (h : l.length = 3) : ∃ a b c, l = [a, b, c] := by
  match l, h with
  | [a, b, c], _ => exact ⟨a, b, c, rfl⟩

theorem open_csn {fuel : Nat} {cs : List Value} {x : DataW H × List MemPlace} (h : DataW.trod enc Try.prog w base sp held fuel 26 cs = some x) : ∃ c : C3, cs = encC c ∧ Rg c := by
  obtain ⟨y0, y1, y2, n, _, hl, h0, h1, h2⟩ := trod_struct3 Try.underlying26 h
  rw [Try.cells26] at hl
  obtain ⟨a, b, c, rfl⟩ := len3 hl
  dsimp only at h0 h1 h2
  rw [Try.cells2] at h0
  rw [Try.cells23] at h1
  rw [Try.cells24] at h2
  obtain ⟨n0, e0, _, _⟩ := DataW.trod_int Try.underlying2 h0
  obtain ⟨n1, e1, _, _⟩ := DataW.trod_int Try.underlying23 h1
  obtain ⟨n2, e2, _, w2⟩ := DataW.trod_int Try.underlying24 h2
  simp at e0 e1 e2
  have k1 : IntKind.u16.min = 0 := by decide
  have k2 : IntKind.u16.max = 65535 := by decide
  simp only [Lit.wf, k1, k2, Bool.and_eq_true, decide_eq_true_eq] at w2
  exact ⟨(n0, n1, n2), by rw [e0, e1, e2]; rfl, w2.1, by have := w2.2; show n2 < 65536; omega⟩

theorem open_run {fuel : Nat} {cs : List Value} {x : DataW H × List MemPlace} (h : DataW.trod enc Try.prog w base sp held fuel 28 cs = some x) : ∃ r : R6, cs = encR r ∧ Rg r.1 ∧ Rg r.2 := by
  obtain ⟨y0, y1, n, _, hl, h0, h1⟩ := trod_struct2 Try.underlying28 h
  rw [Try.cells28] at hl
  dsimp only at h0 h1
  rw [Try.cells26] at h0 h1
  obtain ⟨c0, e0, g0⟩ := open_csn h0
  obtain ⟨c1, e1, g1⟩ := open_csn h1
  refine ⟨(c0, c1), ?_, g0, g1⟩
  have e : cs = (cs.drop 0).take 3 ++ (cs.drop 3).take 3 := by
    rw [List.drop_zero]
    have : (cs.drop 3).take 3 = cs.drop 3 := List.take_of_length_le (by simp; omega)
    rw [this, List.take_append_drop]
  rw [e, e0, e1]
  rfl

theorem fn_range (M : Nat → R6) {len k : Nat} (hk : k < len) : fn ((List.range len).map M) k = M k := by
  unfold fn
  rw [List.getD_eq_getElem?_getD, List.getElem?_eq_getElem (by simpa using hk)]
  simp

theorem open_runs {fuel : Nat} {cs : List Value} {x : DataW H × List MemPlace} (h : DataW.trod enc Try.prog w base (fun _ => true) held fuel 33 cs = some x) :
    ∃ s : Sl, cs = [vS s] ∧ ∃ l : List R6, s.2.1 = l.length ∧ (s.1 = none → l = []) ∧ RunsAt w s.1 l.length (fn l) ∧ ∀ x ∈ l, Rg x.1 ∧ Rg x.2 := by
  rcases open_slice Try.underlying33 h with ⟨rfl, _⟩ | ⟨a, len, cap, m, n, D, Pl, rfl, hb, hl, hm, hmm, _, hx⟩
  · exact ⟨(none, 0, 0), rfl, [], rfl, fun _ => rfl, fun k hk => absurd hk (Nat.not_lt_zero _), fun x hx => by cases hx⟩
  · simp only [if_true] at hmm
    subst hmm
    refine ⟨(some a, len, _), rfl, ?_⟩
    rw [Try.cells28] at hx
    have key : ∀ k, k < len → ∃ r : R6, (Rg r.1 ∧ Rg r.2) ∧ ∃ b off, some a = some ⟨b, off, none⟩ ∧ b < w.heap.size ∧
        w.cell? ⟨b, off + k * 6, none⟩ = some (.int .i64 r.1.1) ∧ w.cell? ⟨b, off + k * 6 + 1, none⟩ = some (.int .u64 r.1.2.1) ∧ w.cell? ⟨b, off + k * 6 + 2, none⟩ = some (.int .u16 r.1.2.2) ∧
        w.cell? ⟨b, off + k * 6 + 3, none⟩ = some (.int .i64 r.2.1) ∧ w.cell? ⟨b, off + k * 6 + 4, none⟩ = some (.int .u64 r.2.2.1) ∧ w.cell? ⟨b, off + k * 6 + 5, none⟩ = some (.int .u16 r.2.2.2) := by
      intro k hk
      obtain ⟨cs', h1, h2⟩ := hx k (by omega)
      obtain ⟨_, hlen, hcell⟩ := World.cells?_some h1
      obtain ⟨r, rfl, g1, g2⟩ := open_run h2
      obtain ⟨cs0, h10, h20⟩ := hx 0 (by omega)
      obtain ⟨_, _, hcell0⟩ := World.cells?_some h10
      obtain ⟨r', rfl, _, _⟩ := open_run h20
      obtain ⟨b, o, spot⟩ := a
      have h0 := hcell0 0 (by omega)
      have hspot : spot = none := by simpa [Addr.add] using World.cell?_spot h0
      subst hspot
      have hblk := block_lt_of_cell h0
      have e1 : ∀ i, ((⟨b, o, none⟩ : Addr).add (k * 6)).add i = ⟨b, o + k * 6 + i, none⟩ := fun i => by rw [add_none, add_none]
      have q := fun i (hi : i < 6) => (by have := hcell i hi; rw [e1] at this; exact this : w.cell? ⟨b, o + k * 6 + i, none⟩ = (encR r)[i]?)
      refine ⟨r, ⟨g1, g2⟩, b, o, rfl, by simpa [Addr.add] using hblk, ?_, ?_, ?_, ?_, ?_, ?_⟩
      · exact q 0 (by omega)
      · exact q 1 (by omega)
      · exact q 2 (by omega)
      · exact q 3 (by omega)
      · exact q 4 (by omega)
      · exact q 5 (by omega)
    obtain ⟨M, hM⟩ := choose_lt key
    refine ⟨(List.range len).map M, by simp, (by intro e; cases e), ?_, ?_⟩
    · intro k hk
      simp only [List.length_map, List.length_range] at hk
      rw [fn_range M hk]
      exact (hM k hk).2
    · intro x hx
      simp only [List.mem_map, List.mem_range] at hx
      obtain ⟨k, hk, rfl⟩ := hx
      exact (hM k hk).1
end

end Go.Proofs.Qxb6627703a
