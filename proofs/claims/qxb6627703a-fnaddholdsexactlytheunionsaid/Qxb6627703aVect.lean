import Derived.Test.Qxb6627703aHeld
namespace Go.Proofs.Qxb6627703a
open Go.RowKit Go.WideMaps Go.Maps
set_option linter.unusedSimpArgs false

/-- How an element of the vector reads, for the proof alone: the slice itself. -/
def R (v : Value) : Option (DataW Sl × List MemPlace) :=
  match v with
  | .slice a n c => some (.held (a, n, c), [])
  | _ => none
theorem R_mk (s : Sl) : R (vS s) = some (.held s, []) := rfl
theorem R_inv {v : Value} {d : DataW Sl} {ps : List MemPlace} (h : R v = some (d, ps)) : ∃ s, v = vS s ∧ d = .held s := by
  unfold R at h
  split at h
  · rename_i a n c
    simp only [Option.some.injEq, Prod.mk.injEq] at h
    exact ⟨(a, n, c), rfl, h.1.symm⟩
  · cases h

def kl (k : Nat) : Lit := .int .u16 k
theorem kl_inj {a b : Nat} (h : kl a = kl b) : a = b := by
  unfold kl at h
  injection h with _ h
  omega
theorem law35 : Keyed Try.prog 35 := int_keyed Try.underlying35
theorem zero50 (w : World) : (zeroValue 50).run Try.prog w = .ok (.slice none 0 0) w := by kernel_rfl
theorem wfk {k : Nat} (h : k < 65536) : (Lit.int .u16 k).wf = true := by
  have e1 : IntKind.u16.min = 0 := by decide
  have e2 : IntKind.u16.max = 65535 := by decide
  simp only [Lit.wf, e1, e2, Bool.and_eq_true, decide_eq_true_eq]
  omega
theorem key35 {k : Nat} (h : k < 65536) : keyOf Try.prog 35 (.int .u16 k) = some (kl k) := keyOf_int_mk Try.underlying35 (wfk h)
theorem isKey_kl (k : Nat) : WideAt.IsKeyLit (kl k) := by
  unfold kl WideAt.IsKeyLit
  simp

/-- One list of the vector. -/
structure Row (w : World) (vb : Nat) (s : Sl) (l : List R6) : Prop where
  len : s.2.1 = l.length
  runs : RunsAt w s.1 l.length (fn l)
  far : ∀ a, s.1 = some a → a.block ≠ vb

/-- Block vb is a vector that holds V. -/
def Vec (w : World) (vb c : Nat) (V : Nat → List R6) : Prop :=
  ∃ n D, ∃ S : Nat → Sl, n ≤ c ∧ w.ownsMap Try.prog 35 R vb n D ∧ (∀ k, k < 65536 → D.atKey (kl k) (.held (none, 0, 0)) = .held (S k)) ∧ ∀ k, k < 65536 → Row w vb (S k) (V k)

theorem Vec.lt {w : World} {vb c : Nat} {V : Nat → List R6} (h : Vec w vb c V) : vb < w.heap.size := by
  obtain ⟨n, D, S, _, ho, _⟩ := h
  exact ho.lt
theorem owns_of {w w' : World} {vb n : Nat} {D : DataW Sl} (h : w.ownsMap Try.prog 35 R vb n D) (e : w'.heap[vb]? = w.heap[vb]?) : w'.ownsMap Try.prog 35 R vb n D := by
  obtain ⟨es, ck, hb, hF, hsz, hD⟩ := h
  exact ⟨es, ck, e.trans hb, hF, hsz, hD⟩
theorem Vec.below {w w' : World} {vb c : Nat} {V : Nat → List R6} (h : Vec w vb c V) (hb : Below w.heap.size w w') : Vec w' vb c V := by
  have hl := h.lt
  obtain ⟨n, D, S, hn, ho, hS, hR⟩ := h
  exact ⟨n, D, S, hn, owns_of ho (hb.block vb hl), hS, fun k hk => ⟨(hR k hk).len, (hR k hk).runs.below hb, (hR k hk).far⟩⟩
theorem Vec.empty (w : World) : Vec (w.alloc (.map #[] 0)) w.heap.size 0 (fun _ => []) :=
  ⟨0, .map [], fun _ => (none, 0, 0), Nat.le_refl _, World.ownsMap_made w _ _ _, fun _ _ => rfl, fun _ _ => ⟨rfl, fun k hk => absurd hk (Nat.not_lt_zero _), fun a h => by cases h⟩⟩
theorem Vec.look {w : World} {vb c : Nat} {V : Nat → List R6} (h : Vec w vb c V) {k : Nat} (hk : k < 65536) :
    ∃ s, Row w vb s (V k) ∧ ∀ W, W.heap[vb]? = w.heap[vb]? → (Instr.lookup 31 (.map (some vb)) (.int .u16 k) false).run Try.prog W = .ok (vS s) W := by
  obtain ⟨n, D, S, hn, ho, hS, hR⟩ := h
  refine ⟨S k, hR k hk, fun W e => ?_⟩
  obtain ⟨v, ps, hrun, hv⟩ := (owns_of ho e).lookup (t := 31) law35 Try.underlying31 (zero50 W) (R_mk (none, 0, 0)) (key35 hk)
  obtain ⟨s, rfl, hs⟩ := R_inv hv
  have := (hS k hk).symm.trans hs
  injection this with this
  rw [this]
  exact hrun

def updV (V : Nat → List R6) (x : Nat) (l : List R6) : Nat → List R6 := fun k => if k = x then l else V k
/-- The vector at x is given a new list. -/
theorem Vec.put {w w' : World} {vb n : Nat} {D : DataW Sl} {S : Nat → Sl} {V : Nat → List R6} {x : Nat} {s : Sl} {l : List R6}
    (ho : w.ownsMap Try.prog 35 R vb n D) (hS : ∀ k, k < 65536 → D.atKey (kl k) (.held (none, 0, 0)) = .held (S k)) (hR : ∀ k, k < 65536 → Row w vb (S k) (V k))
    (ho' : w'.ownsMap Try.prog 35 R vb (n + 1) (D.put (kl x) (.held s))) (hg : w.grownBy w' (some vb)) (hr : Row w vb s l) : Vec w' vb (n + 1) (updV V x l) := by
  have hrow : ∀ {s : Sl} {l : List R6}, Row w vb s l → Row w' vb s l := by
    intro s l h
    refine ⟨h.len, h.runs.of hg.size ?_, h.far⟩
    rintro a ⟨b, off, e, rfl⟩ hl
    exact World.cell?_of_block (hg.block _ hl (by have := h.far _ e; intro q; injection q with q; exact this q))
  refine ⟨n + 1, _, fun k => if k = x then s else S k, Nat.le_refl _, ho', fun k hk => ?_, fun k hk => ?_⟩
  · dsimp only
    by_cases e : k = x
    · subst e
      rw [atKey_put_same ho.isMap (isKey_kl _), if_pos rfl]
    · rw [atKey_put_other (fun he => e (kl_inj he)), if_neg e]
      exact hS k hk
  · unfold updV
    dsimp only
    by_cases e : k = x
    · subst e
      rw [if_pos rfl, if_pos rfl]
      exact hrow hr
    · rw [if_neg e, if_neg e]
      exact hrow (hR k hk)

end Go.Proofs.Qxb6627703a
