import Derived.Test.Qxb6627703aTurn
import Derived.Test.Qxb6627703aLaid
import Derived.Shelf.SlSortCmp.WholeK
namespace Go.Proofs.Qxb6627703a
open Go.Sort
set_option linter.unusedSimpArgs false

/-- a orders before b. -/
def L (a b : C3) : Prop := a.1 < b.1 ∨ (a.1 = b.1 ∧ (a.2.1 < b.2.1 ∨ (a.2.1 = b.2.1 ∧ a.2.2 < b.2.2)))
theorem cmpC_neg (a b : C3) : cmpC a b < 0 ↔ L a b := by
  unfold cmpC cmp1 L
  repeat' split
  all_goals omega
theorem cmpC_pos (a b : C3) : cmpC a b > 0 ↔ L b a := by
  unfold cmpC cmp1 L
  repeat' split
  all_goals omega
theorem cmpC_le (a b : C3) : cmpC a b ≤ 0 ↔ ¬ L b a := by
  rw [← cmpC_pos]; omega
theorem L_irrefl (a : C3) : ¬ L a a := by unfold L; omega
theorem L_trans {a b c : C3} (h : L a b) (k : L b c) : L a c := by unfold L at *; omega
theorem L_ntrans {a b c : C3} (h : ¬ L a b) (k : ¬ L b c) : ¬ L a c := by unfold L at *; omega
theorem L_eq {a b : C3} (h : ¬ L a b) (k : ¬ L b a) : a = b := by
  obtain ⟨t, n, r⟩ := a
  obtain ⟨t', n', r'⟩ := b
  unfold L at *
  dsimp only at *
  have h1 : t = t' := by omega
  have h2 : n = n' := by omega
  have h3 : r = r' := by omega
  rw [h1, h2, h3]
def Z (a : C3) : Prop := a = (0, 0, 0)
theorem zC_iff (a : C3) : zC a = true ↔ Z a := by rw [← eqC_zero]; unfold eqC Z; simp
theorem eqC_iff (a b : C3) : eqC a b = true ↔ a = b := by unfold eqC; simp
theorem sbC_iff (r : R6) (c : C3) : sbC r c = true ↔ (Z r.1 ∨ L r.1 c) := by
  unfold sbC
  rw [Bool.or_eq_true, zC_iff, decide_eq_true_iff, cmpC_neg]
theorem inR_iff (r : R6) (c : C3) : inR r c = true ↔ (Z r.1 ∨ L r.1 c) ∧ ¬ L r.2 c := by
  unfold inR
  rw [Bool.and_eq_true, sbC_iff, decide_eq_true_iff, cmpC_le]
theorem meetsR_iff (h r : R6) : meetsR h r = true ↔ (Z h.1 ∨ ¬ L r.2 h.1) ∧ (Z r.1 ∨ ¬ L h.2 r.1) := by
  have one : ∀ x y : C3, (L x y ∨ x = y) ↔ ¬ L y x := by
    intro x y
    constructor
    · rintro (h | rfl) k
      · exact L_irrefl _ (L_trans h k)
      · exact L_irrefl _ k
    · intro h
      by_cases k : L x y
      · exact .inl k
      · exact .inr (L_eq k h)
  unfold meetsR
  rw [Bool.and_eq_true, Bool.or_eq_true, Bool.or_eq_true, sbC_iff, sbC_iff, eqC_iff, eqC_iff, or_assoc, or_assoc, one, one]
theorem csR_neg (x y : R6) : csR x y < 0 ↔ ¬ Z y.1 ∧ (Z x.1 ∨ L x.1 y.1) := by
  unfold csR
  by_cases h0 : eqC x.1 y.1 = true
  · rw [if_pos h0]
    rw [eqC_iff] at h0
    rw [h0]
    constructor
    · intro h; omega
    · rintro ⟨h, k | k⟩
      · exact absurd k h
      · exact absurd k (L_irrefl _)
  · rw [if_neg h0]
    rw [eqC_iff] at h0
    by_cases h1 : zC x.1 = true
    · rw [if_pos h1]
      rw [zC_iff] at h1
      constructor
      · intro _
        exact ⟨fun h => h0 (h1.trans h.symm), .inl h1⟩
      · intro _; omega
    · rw [if_neg h1]
      rw [zC_iff] at h1
      by_cases h2 : zC y.1 = true
      · rw [if_pos h2]
        rw [zC_iff] at h2
        constructor
        · intro h; omega
        · intro h; exact absurd h2 h.1
      · rw [if_neg h2, cmpC_neg]
        rw [zC_iff] at h2
        exact ⟨fun h => ⟨h2, .inr h⟩, fun h => h.2.resolve_left h1⟩

/-- The hull of held run h and run r. -/
def hull (h r : R6) : R6 := (if csR h r < 0 then h.1 else r.1, if cmpC h.2 r.2 > 0 then h.2 else r.2)
theorem hull_iff {h r : R6} (hm : meetsR h r = true) (c : C3) : inR (hull h r) c = true ↔ inR h c = true ∨ inR r c = true := by
  rw [meetsR_iff] at hm
  rw [inR_iff, inR_iff, inR_iff]
  unfold hull
  have eA := csR_neg h r
  have eB := cmpC_pos h.2 r.2
  by_cases hA : csR h r < 0
  · rw [if_pos hA]
    rw [eA] at hA
    obtain ⟨nz, hA⟩ := hA
    have m2 := hm.2.resolve_left nz
    by_cases hB : cmpC h.2 r.2 > 0
    · rw [if_pos hB]
      rw [eB] at hB
      refine ⟨fun k => .inl k, fun k => ?_⟩
      rcases k with k | ⟨k1, k2⟩
      · exact k
      · exact ⟨hA.imp id fun q => L_trans q (k1.resolve_left nz), fun q => k2 (L_trans hB q)⟩
    · rw [if_neg hB]
      rw [eB] at hB
      constructor
      · rintro ⟨k1, k2⟩
        by_cases k3 : L h.2 c
        · refine .inr ⟨.inr ?_, k2⟩
          by_cases k4 : L r.1 c
          · exact k4
          · exact absurd k3 (L_ntrans m2 k4)
        · exact .inl ⟨k1, k3⟩
      · rintro (⟨k1, k2⟩ | ⟨k1, k2⟩)
        · exact ⟨k1, L_ntrans hB k2⟩
        · exact ⟨hA.imp id fun q => L_trans q (k1.resolve_left nz), k2⟩
  · rw [if_neg hA]
    rw [eA] at hA
    have hlo : ∀ c, (Z h.1 ∨ L h.1 c) → (Z r.1 ∨ L r.1 c) := by
      intro c k
      by_cases zr : Z r.1
      · exact .inl zr
      · have k0 : ¬ (Z h.1 ∨ L h.1 r.1) := fun q => hA ⟨zr, q⟩
        right
        by_cases k4 : L r.1 c
        · exact k4
        · rcases k with k | k
          · exact absurd (.inl k) k0
          · exact absurd k (L_ntrans (fun q => k0 (.inr q)) k4)
    by_cases hB : cmpC h.2 r.2 > 0
    · rw [if_pos hB]
      rw [eB] at hB
      constructor
      · rintro ⟨k1, k2⟩
        by_cases k3 : L r.2 c
        · refine .inl ⟨?_, k2⟩
          rcases hm.1 with m | m
          · exact .inl m
          · right
            by_cases k4 : L h.1 c
            · exact k4
            · exact absurd k3 (L_ntrans m k4)
        · exact .inr ⟨k1, k3⟩
      · rintro (⟨k1, k2⟩ | ⟨k1, k2⟩)
        · exact ⟨hlo c k1, k2⟩
        · exact ⟨k1, fun q => k2 (L_trans hB q)⟩
    · rw [if_neg hB]
      rw [eB] at hB
      refine ⟨fun k => .inr k, fun k => ?_⟩
      rcases k with ⟨k1, k2⟩ | k
      · exact ⟨hlo c k1, L_ntrans hB k2⟩
      · exact k

/-- One of the held runs is met. -/
def stepR (p : List R6 × R6) (h : R6) : List R6 × R6 := if meetsR h p.2 then (p.1, hull h p.2) else (p.1 ++ [h], p.2)
def addL (hs : List R6) (r : R6) : List R6 × R6 := hs.foldl stepR ([], r)
theorem addL_snoc (hs : List R6) (h r : R6) : addL (hs ++ [h]) r = stepR (addL hs r) h := by simp [addL]
theorem snocInd {P : List R6 → Prop} (h0 : P []) (h1 : ∀ l x, P l → P (l ++ [x])) (l : List R6) : P l := by
  have : ∀ m : List R6, P m.reverse := by
    intro m
    induction m with
    | nil => exact h0
    | cons x m ih => rw [List.reverse_cons]; exact h1 _ _ ih
  have h := this l.reverse
  rwa [List.reverse_reverse] at h
theorem addL_le (hs : List R6) (r : R6) : (addL hs r).1.length ≤ hs.length := by
  refine snocInd (P := fun hs => (addL hs r).1.length ≤ hs.length) (by simp [addL]) ?_ hs
  · intro hs h ih
    rw [addL_snoc]
    unfold stepR
    split
    · simp; omega
    · simp; omega
/-- Does one of the runs hold c? -/
def heldL (l : List R6) (c : C3) : Bool := l.any fun x => inR x c
theorem heldL_iff (l : List R6) (c : C3) : heldL l c = true ↔ ∃ x ∈ l, inR x c = true := by simp [heldL]
theorem heldL_perm {l l' : List R6} (h : l'.Perm l) (c : C3) : heldL l' c = heldL l c := by
  rw [Bool.eq_iff_iff, heldL_iff, heldL_iff]
  constructor
  · rintro ⟨x, hx, hi⟩; exact ⟨x, h.mem_iff.1 hx, hi⟩
  · rintro ⟨x, hx, hi⟩; exact ⟨x, h.mem_iff.2 hx, hi⟩
theorem add_law (hs : List R6) (r : R6) (c : C3) : heldL ((addL hs r).1 ++ [(addL hs r).2]) c = (heldL hs c || inR r c) := by
  refine snocInd (P := fun hs => heldL ((addL hs r).1 ++ [(addL hs r).2]) c = (heldL hs c || inR r c)) (by simp [addL, heldL]) ?_ hs
  · intro hs h ih
    rw [addL_snoc]
    rw [Bool.eq_iff_iff] at ih ⊢
    have e1 : ∀ (l : List R6) (x : R6), heldL (l ++ [x]) c = true ↔ heldL l c = true ∨ inR x c = true := by intro l x; simp [heldL]
    rw [e1, Bool.or_eq_true] at ih
    rw [e1, Bool.or_eq_true, e1]
    unfold stepR
    split
    · rename_i hm
      rw [hull_iff hm]
      rw [or_right_comm, ← ih]
      constructor
      · rintro (k | k | k)
        · exact .inl (.inl k)
        · exact .inr k
        · exact .inl (.inr k)
      · rintro ((k | k) | k)
        · exact .inl k
        · exact .inr (.inr k)
        · exact .inr (.inl k)
    · rw [e1, or_right_comm, ih, or_right_comm]

theorem swo_starts : SWO (ltOf csR) where
  irrefl x := by
    unfold ltOf
    rw [decide_eq_false_iff_not, csR_neg]
    rintro ⟨h, k | k⟩
    · exact h k
    · exact L_irrefl _ k
  trans x y z h1 h2 := by
    unfold ltOf at *
    rw [decide_eq_true_iff, csR_neg] at *
    refine ⟨h2.1, ?_⟩
    rcases h1.2 with k | k
    · exact .inl k
    · exact .inr (L_trans k (h2.2.resolve_left h1.1))
  ntrans x y z h1 h2 := by
    unfold ltOf at *
    rw [decide_eq_false_iff_not, csR_neg] at *
    rintro ⟨hz, k⟩
    have k2 : ¬ (Z y.1 ∨ L y.1 z.1) := fun q => h2 ⟨hz, q⟩
    have ny : ¬ Z y.1 := fun q => k2 (.inl q)
    have k1 : ¬ (Z x.1 ∨ L x.1 y.1) := fun q => h1 ⟨ny, q⟩
    rcases k with k | k
    · exact k1 (.inl k)
    · exact L_ntrans (fun q => k1 (.inr q)) (fun q => k2 (.inr q)) k

end Go.Proofs.Qxb6627703a
