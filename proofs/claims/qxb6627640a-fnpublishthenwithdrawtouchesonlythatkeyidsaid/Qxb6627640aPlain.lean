import Derived.Test.Qxb6627640aPublish
namespace Go.Proofs.Qxb6627640a

def cstep (F : ByteArray → Option Addr) (N : Nat) (s : ByteArray) (p : Option Addr) : Nat := if p.isSome then cput F N s else cdel F N s

/-- What is published after k steps; how many. -/
def Fk (Ks : Nat → ByteArray) (Kp : Nat → Option Addr) : Nat → ByteArray → Option Addr
  | 0 => fun _ => none
  | k + 1 => upd (Fk Ks Kp k) (Ks k) (Kp k)
def Nk (Ks : Nat → ByteArray) (Kp : Nat → Option Addr) : Nat → Nat
  | 0 => 0
  | k + 1 => cstep (Fk Ks Kp k) (Nk Ks Kp k) (Ks k) (Kp k)

theorem Fk_congr {Ks : Nat → ByteArray} {Kp Kp' : Nat → Option Addr} {k : Nat} (h : ∀ j, j < k → Kp j = Kp' j) : Fk Ks Kp k = Fk Ks Kp' k := by
  induction k with
  | zero => rfl
  | succ n ih => rw [Fk, Fk, ih (fun j hj => h j (by omega)), h n (by omega)]

theorem Nk_congr {Ks : Nat → ByteArray} {Kp Kp' : Nat → Option Addr} {k : Nat} (h : ∀ j, j < k → Kp j = Kp' j) : Nk Ks Kp k = Nk Ks Kp' k := by
  induction k with
  | zero => rfl
  | succ n ih => rw [Nk, Nk, ih (fun j hj => h j (by omega)), h n (by omega), Fk_congr (fun j hj => h j (by omega))]

theorem Fk_none {Ks : Nat → ByteArray} {Kp : Nat → Option Addr} {k : Nat} {s : ByteArray} (h : ∀ j, j < k → Ks j ≠ s) : Fk Ks Kp k s = none := by
  induction k with
  | zero => rfl
  | succ n ih =>
    rw [Fk]
    unfold upd
    rw [if_neg (fun e => h n (by omega) e.symm)]
    exact ih (fun j hj => h j (by omega))

/-- l is the last step before k that names s. -/
def LastAt (Ks : Nat → ByteArray) (k : Nat) (s : ByteArray) (l : Nat) : Prop := l < k ∧ Ks l = s ∧ ∀ j, l < j → j < k → Ks j ≠ s

theorem Fk_last {Ks : Nat → ByteArray} {Kp : Nat → Option Addr} {k l : Nat} {s : ByteArray} (h : LastAt Ks k s l) : Fk Ks Kp k s = Kp l := by
  induction k with
  | zero => exact absurd h.1 (by omega)
  | succ n ih =>
    rw [Fk]
    unfold upd
    by_cases e : l = n
    · subst e
      rw [if_pos h.2.1.symm]
    · rw [if_neg (fun e' => h.2.2 n (by have := h.1; omega) (by omega) e'.symm)]
      exact ih ⟨by have := h.1; omega, h.2.1, fun j h1 h2 => h.2.2 j h1 (by omega)⟩

theorem last_or_none (Ks : Nat → ByteArray) (k : Nat) (s : ByteArray) : (∃ l, LastAt Ks k s l) ∨ ∀ j, j < k → Ks j ≠ s := by
  induction k with
  | zero => exact Or.inr fun j hj => absurd hj (by omega)
  | succ n ih =>
    by_cases e : Ks n = s
    · exact Or.inl ⟨n, by omega, e, fun j h1 h2 => absurd h2 (by omega)⟩
    · rcases ih with ⟨l, h1, h2, h3⟩ | h
      · refine Or.inl ⟨l, by omega, h2, fun j hj hj' => ?_⟩
        by_cases e' : j = n
        · subst e'; exact e
        · exact h3 j hj (by omega)
      · refine Or.inr fun j hj => ?_
        by_cases e' : j = n
        · subst e'; exact e
        · exact h j (by omega)

theorem LastAt.uniq {Ks : Nat → ByteArray} {k l l' : Nat} {s : ByteArray} (h : LastAt Ks k s l) (h' : LastAt Ks k s l') : l = l' := by
  by_cases a : l < l'
  · exact absurd h'.2.1 (h.2.2 l' a h'.1)
  · by_cases b : l' < l
    · exact absurd h.2.1 (h'.2.2 l b h.1)
    · omega

def cnt (p : Nat → Bool) : Nat → Nat
  | 0 => 0
  | n + 1 => cnt p n + if p n then 1 else 0

theorem cnt_congr {p q : Nat → Bool} {n : Nat} (h : ∀ i, i < n → p i = q i) : cnt p n = cnt q n := by
  induction n with
  | zero => rfl
  | succ n ih => rw [cnt, cnt, ih (fun i hi => h i (by omega)), h n (by omega)]

theorem cnt_split (p q : Nat → Bool) (n : Nat) : cnt p n = cnt (fun i => p i && q i) n + cnt (fun i => p i && !q i) n := by
  induction n with
  | zero => rfl
  | succ n ih =>
    rw [cnt, cnt, cnt, ih]
    cases p n <;> cases q n <;> simp <;> omega

theorem cnt_zero {p : Nat → Bool} {n : Nat} (h : ∀ i, i < n → p i = false) : cnt p n = 0 := by
  induction n with
  | zero => rfl
  | succ n ih => rw [cnt, ih (fun i hi => h i (by omega)), h n (by omega)]; rfl

theorem cnt_one {p : Nat → Bool} {n l : Nat} (hl : l < n) (hp : p l = true) (h : ∀ i, i < n → p i = true → i = l) : cnt p n = 1 := by
  induction n with
  | zero => exact absurd hl (by omega)
  | succ n ih =>
    rw [cnt]
    by_cases e : l = n
    · subst e
      rw [cnt_zero (fun i hi => by
        cases hpi : p i with
        | false => rfl
        | true => have := h i (by omega) hpi; omega), if_pos hp]
    · rw [ih (by omega) (fun i hi => h i (by omega))]
      cases hpn : p n with
      | false => rfl
      | true => have := h n (by omega) hpn; omega

/-- i is a last step before k, decided. -/
def isLast (Ks : Nat → ByteArray) (k i : Nat) : Bool := (List.range k).all fun j => !decide (i < j) || !decide (Ks j = Ks i)

theorem isLast_iff {Ks : Nat → ByteArray} {k i : Nat} (hi : i < k) : isLast Ks k i = true ↔ LastAt Ks k (Ks i) i := by
  unfold isLast LastAt
  rw [List.all_eq_true]
  constructor
  · intro h
    refine ⟨hi, rfl, fun j h1 h2 e => ?_⟩
    have := h j (by simpa using h2)
    simp [h1, e] at this
  · intro h j hj
    by_cases hlt : i < j
    · have := h.2.2 j hlt (by simpa using hj)
      simp [this]
    · simp; omega

theorem isLast_succ {Ks : Nat → ByteArray} {k i : Nat} (hi : i < k) : isLast Ks (k + 1) i = (isLast Ks k i && !decide (Ks i = Ks k)) := by
  unfold isLast
  rw [List.range_succ, List.all_append]
  congr 1
  simp [hi]
  constructor
  · intro h; exact h.symm
  · intro h; exact h.symm

theorem Nk_live (Ks : Nat → ByteArray) (Kp : Nat → Option Addr) (k : Nat) : Nk Ks Kp k = cnt (fun i => isLast Ks k i && (Kp i).isSome) k := by
  induction k with
  | zero => rfl
  | succ k ih =>
    rw [Nk, cnt]
    have hk : isLast Ks (k + 1) k = true := (isLast_iff (by omega)).2 ⟨by omega, rfl, fun j h1 h2 => absurd h2 (by omega)⟩
    have e1 : cnt (fun i => isLast Ks (k + 1) i && (Kp i).isSome) k = cnt (fun i => (isLast Ks k i && (Kp i).isSome) && !decide (Ks i = Ks k)) k := by
      refine cnt_congr fun i hi => ?_
      rw [isLast_succ hi]
      cases isLast Ks k i <;> cases (Kp i).isSome <;> simp
    have e2 : cnt (fun i => isLast Ks k i && (Kp i).isSome) k = cnt (fun i => (isLast Ks k i && (Kp i).isSome) && decide (Ks i = Ks k)) k + cnt (fun i => (isLast Ks k i && (Kp i).isSome) && !decide (Ks i = Ks k)) k :=
      cnt_split (fun i => isLast Ks k i && (Kp i).isSome) (fun i => decide (Ks i = Ks k)) k
    have e3 : cnt (fun i => (isLast Ks k i && (Kp i).isSome) && decide (Ks i = Ks k)) k = if (Fk Ks Kp k (Ks k)).isSome then 1 else 0 := by
      rcases last_or_none Ks k (Ks k) with ⟨l, hl⟩ | hno
      · rw [Fk_last hl]
        have hll : isLast Ks k l = true := (isLast_iff hl.1).2 (by rw [hl.2.1]; exact hl)
        cases hs : (Kp l).isSome with
        | true =>
          rw [if_pos rfl]
          refine cnt_one hl.1 (by simp [hll, hs, hl.2.1]) fun i hi hp => ?_
          simp only [Bool.and_eq_true, decide_eq_true_eq] at hp
          have := (isLast_iff hi).1 hp.1.1
          rw [hp.2] at this
          exact this.uniq hl
        | false =>
          rw [if_neg (by simp)]
          refine cnt_zero fun i hi => ?_
          cases hp : ((isLast Ks k i && (Kp i).isSome) && decide (Ks i = Ks k)) with
          | false => rfl
          | true =>
            simp only [Bool.and_eq_true, decide_eq_true_eq] at hp
            have := (isLast_iff hi).1 hp.1.1
            rw [hp.2] at this
            have := this.uniq hl
            subst this
            rw [hp.1.2] at hs
            cases hs
      · rw [Fk_none hno, if_neg (by simp)]
        refine cnt_zero fun i hi => ?_
        simp [hno i hi]
    rw [e1, hk]
    rw [← ih] at e2
    rw [e3] at e2
    generalize cnt (fun i => (isLast Ks k i && (Kp i).isSome) && !decide (Ks i = Ks k)) k = c at e2 ⊢
    clear ih
    generalize Nk Ks Kp k = N at e2 ⊢
    unfold cstep cput cdel
    clear e1 e3
    revert e2
    cases (Kp k).isSome <;> cases (Fk Ks Kp k (Ks k)).isSome <;> intro e2 <;> simp at e2 ⊢ <;> omega
end Go.Proofs.Qxb6627640a
