import Derived.Test.Qxb6627703aAddS
namespace Go.Proofs.Qxb6627703a
open Go.RowKit Go.WideMaps Go.Maps
set_option linter.unusedSimpArgs false

theorem RunsAt.congr {w : World} {ao : Option Addr} {len : Nat} {f f' : Nat → R6} (h : RunsAt w ao len f) (e : ∀ k, k < len → f' k = f k) : RunsAt w ao len f' := by
  intro k hk
  rw [e k hk]
  exact h k hk

theorem flat_get (l : List R6) : ∀ t, t < l.length * 6 → (l.flatMap encR)[t]? = some (encR (l.getD (t / 6) r0))[t % 6]! := by
  induction l with
  | nil => intro t h; simp at h
  | cons x l ih =>
    intro t h
    rw [List.flatMap_cons]
    by_cases ht : t < 6
    · rw [List.getElem?_append_left (by simpa [encR] using ht)]
      have e1 : t / 6 = 0 := by omega
      have e2 : t % 6 = t := by omega
      rw [e1, e2]
      show (encR x)[t]? = some (encR x)[t]!
      rw [List.getElem!_eq_getElem?_getD, List.getElem?_eq_getElem (by simpa [encR] using ht)]
      rfl
    · have e0 : (encR x).length = 6 := rfl
      rw [List.getElem?_append_right (by omega), e0, ih (t - 6) (by simp at h; omega)]
      have e1 : t / 6 = (t - 6) / 6 + 1 := by omega
      have e2 : t % 6 = (t - 6) % 6 := by omega
      rw [e1, e2]
      rfl

theorem getD_toArray {l : List R6} {j : Nat} (h : j < l.length) : l.toArray[j]! = l.getD j r0 := by
  rw [getElem!_pos l.toArray j (by simpa using h)]
  simp [List.getD, List.getElem?_eq_getElem h]

theorem holdsK_of_owns {w : World} {base g cap : Nat} {l : List R6} (h : w.ownsRow base 39 6 (.slice (some ⟨g, 0, none⟩) l.length cap) l.length (l.flatMap encR)) : Sort.HoldsK encR 6 w g 0 l.toArray := by
  intro t ht
  rw [Sort.size_flatK] at ht
  rw [Sort.get_flatK _ _ _ _ ht]
  simp only [List.size_toArray] at ht
  refine ⟨?_, by rw [Nat.zero_add]; exact h.frozenAt _⟩
  rw [Nat.zero_add, h.cellAt _ ht, flat_get l t ht, getD_toArray (by omega)]
  rfl

/-- The vector at x is given a new list, in a world that is like w below but for the vector's own block. -/
theorem Vec.put' {w w' : World} {vb n : Nat} {D : DataW Sl} {S : Nat → Sl} {V : Nat → List R6} {x : Nat} {s : Sl} {l : List R6} (hm : IsMap D)
    (hS : ∀ k, k < 65536 → D.atKey (kl k) (.held (none, 0, 0)) = .held (S k)) (hR : ∀ k, k < 65536 → Row w vb (S k) (V k))
    (ho' : w'.ownsMap Try.prog 35 R vb (n + 1) (D.put (kl x) (.held s))) (hg : w.grownBy w' (some vb)) (hr : Row w' vb s l) : Vec w' vb (n + 1) (updV V x l) := by
  have hrow : ∀ {s : Sl} {l : List R6}, Row w vb s l → Row w' vb s l := by
    intro s l h
    refine ⟨h.len, h.runs.of hg.size ?_, h.far⟩
    rintro a ⟨b, off, e, rfl⟩ hl
    exact World.cell?_of_block (hg.block _ hl (by have := h.far _ e; intro q; injection q with q; exact this q))
  refine ⟨n + 1, _, fun k => if k = x then s else S k, Nat.le_refl _, ho', fun k hk => ?_, fun k hk => ?_⟩
  · dsimp only
    by_cases e : k = x
    · subst e
      rw [atKey_put_same hm (isKey_kl _), if_pos rfl]
    · rw [atKey_put_other (fun he => e (kl_inj he)), if_neg e]
      exact hS k hk
  · unfold updV
    dsimp only
    by_cases e : k = x
    · subst e
      rw [if_pos rfl, if_pos rfl]
      exact hr
    · rw [if_neg e, if_neg e]
      exact hrow (hR k hk)

/-- What Add has made of the vector. -/
def AddPost (V V' : Nat → List R6) (r : R6) : Prop :=
  ∀ k, k < 65536 → (V' k).length ≤ 1048577 ∧ ∀ c, heldL (V' k) c = (heldL (V k) c || (decide ((k : Int) = r.2.2.2) && inR r c))

theorem addPost_of {V : Nat → List R6} {r : R6} {x : Nat} {l' : List R6} (hS : SmallV V) (hx : (x : Int) = r.2.2.2) (hx6 : x < 65536) (hp : l'.Perm ((addL (V x) r).1 ++ [(addL (V x) r).2])) : AddPost V (updV V x l') r := by
  intro k hk
  unfold updV
  by_cases e : k = x
  · subst e
    rw [if_pos rfl]
    refine ⟨?_, fun c => ?_⟩
    · have h1 := hp.length_eq
      have h2 := addL_le (V k) r
      have h3 := hS k hk
      simp at h1
      omega
    · rw [heldL_perm hp, add_law, decide_eq_true hx, Bool.true_and]
  · rw [if_neg e]
    refine ⟨Nat.le_succ_of_le (hS k hk), fun c => ?_⟩
    rw [decide_eq_false (fun q => e (by omega)), Bool.false_and, Bool.or_false]

end Go.Proofs.Qxb6627703a
