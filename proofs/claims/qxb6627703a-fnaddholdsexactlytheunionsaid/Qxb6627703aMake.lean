import Derived.Test.Qxb6627703aRunV
namespace Go.Proofs.Qxb6627703a
open Go.RowKit Go.WideMaps Go.Maps
set_option linter.unusedSimpArgs false

theorem Try.info39 : (Try.prog.info? 39).map (fun i => (i.zero, i.size, i.bytes)) = some (some (.agg #[.int .i64 0, .int .u64 0, .int .u16 0, .int .i64 0, .int .u64 0, .int .u16 0]), 6, 48) := by kernel_rfl

/-- The block g has n cells that may be written. -/
structure Room (w : World) (g n : Nat) : Prop where
  lt : g < w.heap.size
  cell : ∀ j, j < n → ∃ v, w.cell? ⟨g, j, none⟩ = some v
  frz : ∀ j, w.frozen? ⟨g, j, none⟩ = false

theorem Room.of_owns {w : World} {base e size g n cap : Nat} {xs : List Value} (h : w.ownsRow base e size (.slice (some ⟨g, 0, none⟩) n cap) n xs) : Room w g (n * size) := by
  refine ⟨?_, ?_, fun j => h.frozenAt j⟩
  · obtain ⟨_, ⟨h1, _⟩ | ⟨g', c', cur, h1, _, h2, _⟩⟩ := h
    · cases h1
    · injection h1 with h1 _ _
      injection h1 with h1
      injection h1 with h1
      subst h1
      obtain ⟨hlt, _⟩ := Array.getElem?_eq_some_iff.1 h2
      exact hlt
  · intro j hj
    rw [h.cellAt j hj]
    have := h.1
    exact ⟨_, List.getElem?_eq_getElem (by omega)⟩
theorem Room.of {w w' : World} {g n : Nat} (h : Room w g n) (hg : Grew w w') : Room w' g n :=
  ⟨Nat.lt_of_lt_of_le h.lt hg.size, fun j hj => by obtain ⟨v, hv⟩ := h.cell j hj; exact ⟨v, hg.cell (p := ⟨g, j, none⟩) h.lt hv⟩, fun j => hg.frozen (p := ⟨g, j, none⟩) h.lt (h.frz j)⟩
theorem cell_set {w : World} {p q : Addr} {u : Value} {v : Value} (h : w.cell? q = some v) : (w.setCell p u).cell? q = some (if p = q then u else v) := by
  by_cases e : p = q
  · subst e; rw [if_pos rfl]; exact World.cell?_setCell_same _ _ _ h
  · rw [if_neg e, World.cell?_setCell_other _ _ _ _ e]; exact h
theorem Room.setCell {w : World} {g n : Nat} (h : Room w g n) (p : Addr) (u : Value) : Room (w.setCell p u) g n :=
  ⟨by have := h.lt; simp [World.setCell]; omega, fun j hj => by obtain ⟨v, hv⟩ := h.cell j hj; exact ⟨_, cell_set hv⟩,
    fun j => by rw [World.frozen?_setCell]; exact h.frz j⟩

/-- The world with run x laid at offset o of block g. -/
def put6 (w : World) (g o : Nat) (x : R6) : World :=
  (((((w.setCell ⟨g, o, none⟩ (.int .i64 x.1.1)).setCell ⟨g, o + 1, none⟩ (.int .u64 x.1.2.1)).setCell ⟨g, o + 2, none⟩ (.int .u16 x.1.2.2)).setCell ⟨g, o + 3, none⟩ (.int .i64 x.2.1)).setCell ⟨g, o + 4, none⟩ (.int .u64 x.2.2.1)).setCell ⟨g, o + 5, none⟩ (.int .u16 x.2.2.2)
theorem Room.put6 {w : World} {g n : Nat} (h : Room w g n) (g' o : Nat) (x : R6) : Room (put6 w g' o x) g n :=
  (((((h.setCell _ _).setCell _ _).setCell _ _).setCell _ _).setCell _ _).setCell _ _
theorem Below.put6 {B : Nat} {a w : World} (h : Below B a w) {g : Nat} (hg : B ≤ g) (o : Nat) (x : R6) : Below B a (put6 w g o x) :=
  (((((h.setCell (p := ⟨g, _, none⟩) hg _).setCell (p := ⟨g, _, none⟩) hg _).setCell (p := ⟨g, _, none⟩) hg _).setCell (p := ⟨g, _, none⟩) hg _).setCell (p := ⟨g, _, none⟩) hg _).setCell (p := ⟨g, _, none⟩) hg _

theorem size_setCell (w : World) (p : Addr) (u : Value) : (w.setCell p u).heap.size = w.heap.size := by simp [World.setCell]
theorem size_put6 (w : World) (g o : Nat) (x : R6) : (put6 w g o x).heap.size = w.heap.size := by
  unfold put6
  rw [size_setCell, size_setCell, size_setCell, size_setCell, size_setCell, size_setCell]

theorem runs_put {w : World} {g n : Nat} {f : Nat → R6} {k : Nat} (h : RunsAt w (some ⟨g, 0, none⟩) k f) (hr : Room w g n) (hk : k * 6 + 5 < n) : RunsAt (put6 w g (k * 6) (f k)) (some ⟨g, 0, none⟩) (k + 1) f := by
  intro j hj
  have ne : ∀ {a b : Nat}, a ≠ b → (⟨g, a, none⟩ : Addr) ≠ ⟨g, b, none⟩ := by
    intro a b hab e
    injection e with _ e
    exact hab e
  refine ⟨g, 0, rfl, by rw [size_put6]; exact hr.lt, ?_⟩
  simp only [Nat.zero_add]
  unfold put6
  by_cases e : j = k
  · subst e
    obtain ⟨v0, g0⟩ := hr.cell (j * 6) (by omega)
    obtain ⟨v1, g1⟩ := hr.cell (j * 6 + 1) (by omega)
    obtain ⟨v2, g2⟩ := hr.cell (j * 6 + 2) (by omega)
    obtain ⟨v3, g3⟩ := hr.cell (j * 6 + 3) (by omega)
    obtain ⟨v4, g4⟩ := hr.cell (j * 6 + 4) (by omega)
    obtain ⟨v5, g5⟩ := hr.cell (j * 6 + 5) (by omega)
    refine ⟨?_, ?_, ?_, ?_, ?_, ?_⟩
    · rw [World.cell?_setCell_other _ _ _ _ (ne (by omega)), World.cell?_setCell_other _ _ _ _ (ne (by omega)), World.cell?_setCell_other _ _ _ _ (ne (by omega)), World.cell?_setCell_other _ _ _ _ (ne (by omega)), World.cell?_setCell_other _ _ _ _ (ne (by omega)), World.cell?_setCell_same _ _ _ g0]
    · rw [World.cell?_setCell_other _ _ _ _ (ne (by omega)), World.cell?_setCell_other _ _ _ _ (ne (by omega)), World.cell?_setCell_other _ _ _ _ (ne (by omega)), World.cell?_setCell_other _ _ _ _ (ne (by omega))]
      exact World.cell?_setCell_same _ _ _ (cell_set g1)
    · rw [World.cell?_setCell_other _ _ _ _ (ne (by omega)), World.cell?_setCell_other _ _ _ _ (ne (by omega)), World.cell?_setCell_other _ _ _ _ (ne (by omega))]
      exact World.cell?_setCell_same _ _ _ (cell_set (cell_set g2))
    · rw [World.cell?_setCell_other _ _ _ _ (ne (by omega)), World.cell?_setCell_other _ _ _ _ (ne (by omega))]
      exact World.cell?_setCell_same _ _ _ (cell_set (cell_set (cell_set g3)))
    · rw [World.cell?_setCell_other _ _ _ _ (ne (by omega))]
      exact World.cell?_setCell_same _ _ _ (cell_set (cell_set (cell_set (cell_set g4))))
    · exact World.cell?_setCell_same _ _ _ (cell_set (cell_set (cell_set (cell_set (cell_set g5)))))
  · obtain ⟨b, off, q, _, c0, c1, c2, c3, c4, c5⟩ := h j (by omega)
    injection q with q
    injection q with q1 q2
    subst q1 q2
    simp only [Nat.zero_add] at c0 c1 c2 c3 c4 c5
    have far : ∀ d, d < 6 → ∀ w' : World, ∀ o v, k * 6 ≤ o → o < k * 6 + 6 → (w'.setCell ⟨g, o, none⟩ v).cell? ⟨g, j * 6 + d, none⟩ = w'.cell? ⟨g, j * 6 + d, none⟩ := fun d hd w' o v h1 h2 => World.cell?_setCell_other _ _ _ _ (ne (by omega))
    have far0 : ∀ w' : World, ∀ o v, k * 6 ≤ o → o < k * 6 + 6 → (w'.setCell ⟨g, o, none⟩ v).cell? ⟨g, j * 6, none⟩ = w'.cell? ⟨g, j * 6, none⟩ := fun w' o v h1 h2 => World.cell?_setCell_other _ _ _ _ (ne (by omega))
    refine ⟨?_, ?_, ?_, ?_, ?_, ?_⟩
    · rw [far0 _ _ _ (by omega) (by omega), far0 _ _ _ (by omega) (by omega), far0 _ _ _ (by omega) (by omega), far0 _ _ _ (by omega) (by omega), far0 _ _ _ (by omega) (by omega), far0 _ _ _ (by omega) (by omega)]; exact c0
    · rw [far 1 (by omega) _ _ _ (by omega) (by omega), far 1 (by omega) _ _ _ (by omega) (by omega), far 1 (by omega) _ _ _ (by omega) (by omega), far 1 (by omega) _ _ _ (by omega) (by omega), far 1 (by omega) _ _ _ (by omega) (by omega), far 1 (by omega) _ _ _ (by omega) (by omega)]; exact c1
    · rw [far 2 (by omega) _ _ _ (by omega) (by omega), far 2 (by omega) _ _ _ (by omega) (by omega), far 2 (by omega) _ _ _ (by omega) (by omega), far 2 (by omega) _ _ _ (by omega) (by omega), far 2 (by omega) _ _ _ (by omega) (by omega), far 2 (by omega) _ _ _ (by omega) (by omega)]; exact c2
    · rw [far 3 (by omega) _ _ _ (by omega) (by omega), far 3 (by omega) _ _ _ (by omega) (by omega), far 3 (by omega) _ _ _ (by omega) (by omega), far 3 (by omega) _ _ _ (by omega) (by omega), far 3 (by omega) _ _ _ (by omega) (by omega), far 3 (by omega) _ _ _ (by omega) (by omega)]; exact c3
    · rw [far 4 (by omega) _ _ _ (by omega) (by omega), far 4 (by omega) _ _ _ (by omega) (by omega), far 4 (by omega) _ _ _ (by omega) (by omega), far 4 (by omega) _ _ _ (by omega) (by omega), far 4 (by omega) _ _ _ (by omega) (by omega), far 4 (by omega) _ _ _ (by omega) (by omega)]; exact c4
    · rw [far 5 (by omega) _ _ _ (by omega) (by omega), far 5 (by omega) _ _ _ (by omega) (by omega), far 5 (by omega) _ _ _ (by omega) (by omega), far 5 (by omega) _ _ _ (by omega) (by omega), far 5 (by omega) _ _ _ (by omega) (by omega), far 5 (by omega) _ _ _ (by omega) (by omega)]; exact c5

def VK (V : Nat → List R6) (k : Nat) : Nat → List R6 := fun j => if j < k then V j else []
theorem VK_put (V : Nat → List R6) (k : Nat) : updV (VK V k) k (V k) = VK V (k + 1) := by
  funext j
  unfold updV VK
  by_cases e : j = k
  · subst e; simp
  · by_cases h : j < k
    · have : j < k + 1 := by omega
      simp [e, h, this]
    · have : ¬ j < k + 1 := by omega
      simp [e, h, this]
theorem VK_nil {V : Nat → List R6} {k : Nat} (h : V k = []) : VK V k = VK V (k + 1) := by
  funext j
  unfold VK
  by_cases e : j = k
  · subst e; simp [h]
  · by_cases h : j < k
    · have : j < k + 1 := by omega
      simp [h, this]
    · have : ¬ j < k + 1 := by omega
      simp [h, this]

end Go.Proofs.Qxb6627703a
