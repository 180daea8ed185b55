import Derived.Test.Qxb6627703aVector
import Derived.Deep.AppendLies
namespace Go.Proofs.Qxb6627703a
open Go.RowKit Go.WideMaps Go.Maps
set_option linter.unusedSimpArgs false

def cells6 (x : R6) : Array Value := #[.int .i64 x.1.1, .int .u64 x.1.2.1, .int .u16 x.1.2.2, .int .i64 x.2.1, .int .u64 x.2.2.1, .int .u16 x.2.2.2]

theorem Grew.grown {a b : World} (h : Grew a b) : a.grownBy b none := by
  have hb := h.below
  exact ⟨hb.os, hb.tape, hb.output, hb.size, fun k hk _ => hb.block k hk⟩

/-- Where Add stands: what it has set apart, and the run it is joining. -/
structure AddSt (w : World) (v : Value) (p : List R6 × R6) (wr : World) : Prop where
  own : wr.ownsRow (w.heap.size + 1) 39 6 v p.1.length (p.1.flatMap encR)
  box : At wr w.heap.size (cells6 p.2)
  frz : ∀ j, wr.frozen? ⟨w.heap.size, j, none⟩ = false
  below : Below w.heap.size w wr

theorem AddSt.grew {w : World} {v : Value} {p : List R6 × R6} {wr w' : World} (h : AddSt w v p wr) (g : Grew wr w') : AddSt w v p w' :=
  ⟨h.own.kept g.grown (by cases v.ownBlock <;> simp), h.box.of g, fun j => g.frozen (p := ⟨w.heap.size, j, none⟩) h.box.1 (h.frz j), h.below.trans (g.below.mono h.below.size)⟩

theorem AddSt.start (w : World) (r : R6) (T : TypeId) : AddSt w (.slice none 0 0) ([], r) (w.alloc (.cells (cells6 r) T)) :=
  ⟨World.ownsRow_nil _ _ _ _, At.box0 _ _ _, fun j => by
    have e : (w.alloc (.cells (cells6 r) T)).heap[w.heap.size]? = some (.cells (cells6 r) T) := heap_alloc_new _ _
    unfold World.frozen?
    rw [e]
    simp, (Below.refl _ _).alloc (Nat.le_refl _) _⟩

theorem AddSt.append {w : World} {v v' : Value} {ap : List R6} {rr x : R6} {wr w' : World} (h : AddSt w v (ap, rr) wr) (ho : w'.ownsRow (w.heap.size + 1) 39 6 v' (ap.length + 1) (ap.flatMap encR ++ encR x)) (hg : wr.grownBy w' v.ownBlock) : AddSt w v' (ap ++ [x], rr) w' := by
  have hne : ∀ j, v.ownBlock = some j → w.heap.size + 1 ≤ j := fun j hj => (h.own.lt j hj).1
  have hB : w'.heap[w.heap.size]? = wr.heap[w.heap.size]? := hg.block _ h.box.1 (fun q => by have := hne _ q.symm; omega)
  refine ⟨by simpa using ho, ⟨Nat.lt_of_lt_of_le h.box.1 hg.size, fun k u hu => ?_⟩, fun j => ?_, h.below.grown hg h.below.size (fun j hj => by have := hne j hj; omega)⟩
  · rw [World.cell?_of_block (w := wr) (a := ⟨w.heap.size, k, none⟩) hB]
    exact h.box.2 k u hu
  · rw [World.frozen?_of_block (w := wr) (a := ⟨w.heap.size, j, none⟩) hB]
    exact h.frz j

theorem AddSt.set {w : World} {v : Value} {ap : List R6} {rr rr' : R6} {wr w' : World} (h : AddSt w v (ap, rr) wr) (hs : w'.heap.size = wr.heap.size) (hos : w'.os = wr.os) (htp : w'.tape = wr.tape) (hout : w'.output = wr.output)
    (hb : ∀ k, k ≠ w.heap.size → w'.heap[k]? = wr.heap[k]?) (hc : ∀ k u, (cells6 rr')[k]? = some u → w'.cell? ⟨w.heap.size, k, none⟩ = some u) (hf : ∀ j, w'.frozen? ⟨w.heap.size, j, none⟩ = false) : AddSt w v (ap, rr') w' := by
  have hg : wr.grownBy w' (some w.heap.size) := ⟨hos, htp, hout, by omega, fun k _ hk => hb k (fun e => hk (by rw [e]))⟩
  have hne : ∀ j, v.ownBlock = some j → w.heap.size + 1 ≤ j := fun j hj => (h.own.lt j hj).1
  refine ⟨h.own.kept hg (.inr fun q => by have := hne _ q; omega), ⟨by rw [hs]; exact h.box.1, hc⟩, hf, h.below.grown hg h.below.size (fun j hj => by cases hj; exact Nat.le_refl _)⟩

/-- The world with change c laid at offset o of block g. -/
def put3 (w : World) (g o : Nat) (c : C3) : World :=
  ((w.setCell ⟨g, o, none⟩ (.int .i64 c.1)).setCell ⟨g, o + 1, none⟩ (.int .u64 c.2.1)).setCell ⟨g, o + 2, none⟩ (.int .u16 c.2.2)

theorem AddSt.put3 {w : World} {v : Value} {ap : List R6} {rr rr' : R6} {wr : World} (h : AddSt w v (ap, rr) wr) (o : Nat) (c : C3)
    (hc : ∀ k u, (cells6 rr')[k]? = some u → ∃ u0, (cells6 rr)[k]? = some u0 ∧ u = (if o + 2 = k then .int .u16 c.2.2 else if o + 1 = k then .int .u64 c.2.1 else if o = k then .int .i64 c.1 else u0)) : AddSt w v (ap, rr') (put3 wr w.heap.size o c) := by
  have ad : ∀ a b : Nat, ((⟨w.heap.size, a, none⟩ : Addr) = ⟨w.heap.size, b, none⟩) = (a = b) := by
    intro a b
    apply propext
    constructor
    · intro e; injection e
    · rintro rfl; rfl
  refine h.set (by unfold Qxb6627703a.put3; rw [size_setCell, size_setCell, size_setCell]) rfl rfl rfl ?_ ?_ ?_
  · intro k hk
    unfold Qxb6627703a.put3
    rw [Below.heap_setCell _ _ _ _ hk, Below.heap_setCell _ _ _ _ hk, Below.heap_setCell _ _ _ _ hk]
  · intro k u hu
    obtain ⟨u0, h0, rfl⟩ := hc k u hu
    have := cell_set (p := ⟨w.heap.size, o + 2, none⟩) (u := .int .u16 c.2.2) (cell_set (p := ⟨w.heap.size, o + 1, none⟩) (u := .int .u64 c.2.1) (cell_set (p := ⟨w.heap.size, o, none⟩) (u := .int .i64 c.1) (h.box.2 k u0 h0)))
    unfold Qxb6627703a.put3
    rw [this]
    simp only [ad]
  · intro j
    unfold Qxb6627703a.put3
    rw [World.frozen?_setCell, World.frozen?_setCell, World.frozen?_setCell]
    exact h.frz j

theorem AddSt.setA {w : World} {v : Value} {ap : List R6} {rr : R6} {wr : World} (h : AddSt w v (ap, rr) wr) (c : C3) : AddSt w v (ap, (c, rr.2)) (Qxb6627703a.put3 wr w.heap.size 0 c) := by
  refine h.put3 0 c ?_
  intro k u hu
  rcases k with _ | _ | _ | _ | _ | _ | k
  all_goals (simp [cells6] at hu; try subst hu)
  all_goals simp [cells6]
theorem AddSt.setT {w : World} {v : Value} {ap : List R6} {rr : R6} {wr : World} (h : AddSt w v (ap, rr) wr) (c : C3) : AddSt w v (ap, (rr.1, c)) (Qxb6627703a.put3 wr w.heap.size 3 c) := by
  refine h.put3 3 c ?_
  intro k u hu
  rcases k with _ | _ | _ | _ | _ | _ | k
  all_goals (simp [cells6] at hu; try subst hu)
  all_goals simp [cells6]

end Go.Proofs.Qxb6627703a
