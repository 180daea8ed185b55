import Derived.Test.Qxb6627703aAddW
namespace Go.Proofs.Qxb6627703a
open Go.RowKit Go.WideMaps Go.Maps
set_option linter.unusedSimpArgs false

theorem Try.info26 : (Try.prog.info? 26).map (fun i => (i.zero, i.size, i.bytes)) = some (some (.agg #[.int .i64 0, .int .u64 0, .int .u16 0]), 3, 24) := by kernel_rfl

def cells3 (c : C3) : Array Value := #[.int .i64 c.1, .int .u64 c.2.1, .int .u16 c.2.2]
def q0 : C3 := (0, 0, 0)

/-- The changes that are tried. -/
def prs (c : C3) (r : R6) (l : List R6) : List C3 := [c, r.2, r.1] ++ l.flatMap fun x => [x.1, x.2]
theorem prs_length (c : C3) (r : R6) (l : List R6) : (prs c r l).length = 3 + 2 * l.length := by
  unfold prs
  induction l with
  | nil => rfl
  | cons x l ih => simp at ih ⊢; omega
theorem prs_snoc (c : C3) (r : R6) (l : List R6) (x : R6) : prs c r (l ++ [x]) = prs c r l ++ [x.1, x.2] := by simp [prs]
theorem prs_take {l : List R6} {k : Nat} (hk : k < l.length) (c : C3) (r : R6) : prs c r (l.take (k + 1)) = prs c r (l.take k) ++ [(fn l k).1, (fn l k).2] := by
  have e : fn l k = l[k] := by simp [fn, List.getD, List.getElem?_eq_getElem hk]
  rw [List.take_succ_eq_append_getElem hk, prs_snoc, e]

def Rg (p : C3) : Prop := 0 ≤ p.2.2 ∧ p.2.2 < 65536
theorem prs_rng {c : C3} {r : R6} {l : List R6} (hc : Rg c) (h1 : Rg r.1) (h2 : Rg r.2) (hl : ∀ x ∈ l, (0 ≤ x.1.2.2 ∧ x.1.2.2 < 65536) ∧ (0 ≤ x.2.2.2 ∧ x.2.2.2 < 65536)) : ∀ p ∈ prs c r l, Rg p := by
  intro p hp
  unfold prs at hp
  rw [List.mem_append] at hp
  rcases hp with hp | hp
  · simp at hp
    rcases hp with rfl | rfl | rfl
    · exact hc
    · exact h2
    · exact h1
  · rw [List.mem_flatMap] at hp
    obtain ⟨x, hx, hp⟩ := hp
    simp at hp
    rcases hp with rfl | rfl
    · exact (hl x hx).1
    · exact (hl x hx).2

theorem flatC_get (l : List C3) : ∀ i, i < l.length → (l.flatMap encC)[i * 3]? = some (.int .i64 (l.getD i q0).1) ∧ (l.flatMap encC)[i * 3 + 1]? = some (.int .u64 (l.getD i q0).2.1) ∧ (l.flatMap encC)[i * 3 + 2]? = some (.int .u16 (l.getD i q0).2.2) := by
  induction l with
  | nil => intro i h; simp at h
  | cons x l ih =>
    intro i h
    rw [List.flatMap_cons]
    have e0 : (encC x).length = 3 := rfl
    cases i with
    | zero => exact ⟨rfl, rfl, rfl⟩
    | succ i =>
      have := ih i (by simp at h; omega)
      rw [List.getElem?_append_right (by omega), List.getElem?_append_right (by omega), List.getElem?_append_right (by omega), e0]
      rw [show (i + 1) * 3 - 3 = i * 3 from by omega, show (i + 1) * 3 + 1 - 3 = i * 3 + 1 from by omega, show (i + 1) * 3 + 2 - 3 = i * 3 + 2 from by omega]
      exact this

theorem flatC_length (l : List C3) : (l.flatMap encC).length = l.length * 3 := by
  induction l with
  | nil => rfl
  | cons x l ih => rw [List.flatMap_cons, List.length_append, ih]; simp [encC]; omega

/-- What both loops over the changes find in memory. -/
structure LS (w : World) (mv : Value) (vb c g : Nat) (V Vn : Nat → List R6) (P : List C3) : Prop where
  inm : InMap w mv V
  vec : Vec w vb c Vn
  glt : g < w.heap.size
  prb : ∀ i, i < P.length → w.cell? ⟨g, i * 3, none⟩ = some (.int .i64 (P.getD i q0).1) ∧ w.cell? ⟨g, i * 3 + 1, none⟩ = some (.int .u64 (P.getD i q0).2.1) ∧ w.cell? ⟨g, i * 3 + 2, none⟩ = some (.int .u16 (P.getD i q0).2.2)
  rng : ∀ p ∈ P, Rg p
theorem LS.below {w w' : World} {mv : Value} {vb c g : Nat} {V Vn : Nat → List R6} {P : List C3} (h : LS w mv vb c g V Vn P) (hb : Below w.heap.size w w') : LS w' mv vb c g V Vn P :=
  ⟨h.inm.below hb, h.vec.below hb, Nat.lt_of_lt_of_le h.glt hb.size, fun i hi => by
    obtain ⟨a, b, d⟩ := h.prb i hi
    exact ⟨(hb.cell (p := ⟨g, i * 3, none⟩) h.glt).trans a, (hb.cell (p := ⟨g, i * 3 + 1, none⟩) h.glt).trans b, (hb.cell (p := ⟨g, i * 3 + 2, none⟩) h.glt).trans d⟩, h.rng⟩

theorem LS.added {w w' : World} {mv : Value} {vb c c' g : Nat} {V Vn V' : Nat → List R6} {P : List C3} (h : LS w mv vb c g V Vn P) (hM : InMap w' mv V) (hV : Vec w' vb c' V') (hg : w.grownBy w' (some vb)) (hne : g ≠ vb) : LS w' mv vb c' g V V' P := by
  have e : w'.heap[g]? = w.heap[g]? := hg.block g h.glt (by intro q; injection q with q; exact hne q)
  have q : ∀ o, w'.cell? ⟨g, o, none⟩ = w.cell? ⟨g, o, none⟩ := fun o => World.cell?_of_block (w := w) (a := ⟨g, o, none⟩) e
  exact ⟨hM, hV, Nat.lt_of_lt_of_le h.glt hg.size, fun i hi => by
    obtain ⟨a, b, d⟩ := h.prb i hi
    exact ⟨(q _).trans a, (q _).trans b, (q _).trans d⟩, h.rng⟩
theorem At.added {w w' : World} {b vb : Nat} {vs : Array Value} (h : At w b vs) (hg : w.grownBy w' (some vb)) (hne : b ≠ vb) : At w' b vs := by
  have e : w'.heap[b]? = w.heap[b]? := hg.block b h.1 (by intro q; injection q with q; exact hne q)
  exact ⟨Nat.lt_of_lt_of_le h.1 hg.size, fun k v hv => (World.cell?_of_block (w := w) (a := ⟨b, k, none⟩) e).trans (h.2 k v hv)⟩

theorem LS.at {w : World} {mv : Value} {vb c g : Nat} {V Vn : Nat → List R6} {P : List C3} (h : LS w mv vb c g V Vn P) {i : Nat} (hi : i < P.length) : ∃ k : Nat, k < 65536 ∧ (k : Int) = (P.getD i q0).2.2 := by
  have := h.rng (P.getD i q0) (by
    rw [List.getD_eq_getElem?_getD, List.getElem?_eq_getElem hi]
    exact List.getElem_mem hi)
  obtain ⟨u1, u2⟩ := this
  exact ⟨(P.getD i q0).2.2.toNat, by omega, by omega⟩

theorem run6' {W : World} {vb c k : Nat} {V : Nat → List R6} (hV : Vec W vb c V) (hS : ∀ k, k < 65536 → (V k).length ≤ 1048577) (p : C3) (hk : (k : Int) = p.2.2) (hk6 : k < 65536) :
    Calls Try.prog 6 #[.map (some vb), vC p] W fun e w' => RunPost (V k) p e ∧ Grew W w' := by
  obtain ⟨s, hR, hl⟩ := hV.look hk6
  rw [hk] at hl
  exact run6 vb (V k) p s W hV.lt (hS k hk6) hR hl

theorem run6'' {W : World} {vb c k : Nat} {V : Nat → List R6} (hV : Vec W vb c V) (hS : ∀ k, k < 65536 → (V k).length ≤ 1048577) (p : C3) (hk : (k : Int) = p.2.2) (hk6 : k < 65536) (h : Bool) (hh : heldL (V k) p = h) :
    Calls Try.prog 6 #[.map (some vb), .agg #[.int .i64 p.1, .int .u64 p.2.1, .int .u16 p.2.2]] W fun e w' =>
      (∃ y1 y2 y3 y4 y5 y6, e = .returned (.tuple #[.agg #[.int .i64 y1, .int .u64 y2, .int .u16 y3, .int .i64 y4, .int .u64 y5, .int .u16 y6], .bool h]) ∧ Hid (h = true → inR ((y1, y2, y3), (y4, y5, y6)) p = true)) ∧ Grew W w' := by
  refine (run6' hV hS p hk hk6).mono ?_
  rintro e w' ⟨⟨⟨⟨y1, y2, y3⟩, ⟨y4, y5, y6⟩⟩, rfl, hy⟩, hG⟩
  rw [hh] at hy ⊢
  exact ⟨⟨y1, y2, y3, y4, y5, y6, rfl, hy⟩, hG⟩

theorem held8' {w W : World} {mv : Value} {k : Nat} {ok : Bool} {s : Sl} {l : List R6} (hI : InAt w mv k ok s l) (hb : Below w.heap.size w W) (hl : l.length ≤ 1048577) (p : C3) :
    Calls Try.prog 8 #[vS s, vC p] W fun e w' => e = .returned (.bool (heldL l p)) ∧ Grew W w' := by
  have h := held8 s.1 s.2.2 l p W hl (hI.runs.below hb)
  rw [← hI.len] at h
  exact h

theorem LS.ofOwns {w : World} {mv : Value} {vb c base g cap : Nat} {V Vn : Nat → List R6} {P : List C3} (hi : InMap w mv V) (hv : Vec w vb c Vn) (ho : w.ownsRow base 26 3 (.slice (some ⟨g, 0, none⟩) P.length cap) P.length (P.flatMap encC)) (hr : ∀ p ∈ P, Rg p) : LS w mv vb c g V Vn P := by
  refine ⟨hi, hv, (ho.lt g rfl).2, fun i hi => ?_, hr⟩
  obtain ⟨a, b, d⟩ := flatC_get P i hi
  rw [ho.cellAt _ (by omega), ho.cellAt _ (by omega), ho.cellAt _ (by omega)]
  exact ⟨a, b, d⟩

theorem keep9 {a b : World} (h : Grew a b) {B1 B2 : Nat} {v0 v1 v2 v3 v4 v5 u0 u1 u2 : Value}
    (hs : B1 < a.heap.size ∧ B2 < a.heap.size ∧ a.cell? ⟨B1, 0, none⟩ = some u0 ∧ a.cell? ⟨B1, 1, none⟩ = some u1 ∧ a.cell? ⟨B1, 2, none⟩ = some u2 ∧
      a.cell? ⟨B2, 0, none⟩ = some v0 ∧ a.cell? ⟨B2, 1, none⟩ = some v1 ∧ a.cell? ⟨B2, 2, none⟩ = some v2 ∧ a.cell? ⟨B2, 3, none⟩ = some v3 ∧ a.cell? ⟨B2, 4, none⟩ = some v4 ∧ a.cell? ⟨B2, 5, none⟩ = some v5) :
    B1 < b.heap.size ∧ B2 < b.heap.size ∧ b.cell? ⟨B1, 0, none⟩ = some u0 ∧ b.cell? ⟨B1, 1, none⟩ = some u1 ∧ b.cell? ⟨B1, 2, none⟩ = some u2 ∧
      b.cell? ⟨B2, 0, none⟩ = some v0 ∧ b.cell? ⟨B2, 1, none⟩ = some v1 ∧ b.cell? ⟨B2, 2, none⟩ = some v2 ∧ b.cell? ⟨B2, 3, none⟩ = some v3 ∧ b.cell? ⟨B2, 4, none⟩ = some v4 ∧ b.cell? ⟨B2, 5, none⟩ = some v5 := by
  obtain ⟨h1, h2, a0, a1, a2, b0, b1, b2, b3, b4, b5⟩ := hs
  exact ⟨Nat.lt_of_lt_of_le h1 h.size, Nat.lt_of_lt_of_le h2 h.size, h.cell h1 a0, h.cell h1 a1, h.cell h1 a2, h.cell h2 b0, h.cell h2 b1, h.cell h2 b2, h.cell h2 b3, h.cell h2 b4, h.cell h2 b5⟩

end Go.Proofs.Qxb6627703a
