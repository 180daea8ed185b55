import Derived.Test.Qxb6627703aComp
namespace Go.Proofs.Qxb6627703a
open Go.RowKit Go.Sort
set_option linter.unusedSimpArgs false

set_option maxHeartbeats 1000000 in
theorem zzIn9 (x : R6) (c : C3) (W : World) : Calls Try.prog 9 #[vR x, vC c] W fun e w' => e = .returned (.bool (inR x c)) ∧ Grew W w' := by
  have k0 := fun W' => isZero14 x.1 W'
  have k1 := fun W' => zzCmp15 x.1 c W'
  have k2 := fun W' => zzCmp15 c x.2 W'
  unfold inR sbC
  generalize cmpC c x.2 = r2 at k2 ⊢
  generalize cmpC x.1 c = r1 at k1 ⊢
  generalize zC x.1 = b at k0 ⊢
  unfold vR vC
  unfold vC at k0 k1 k2
  obtain ⟨⟨t, n, r⟩, ⟨t1, n1, r1'⟩⟩ := x
  obtain ⟨t', n', r'⟩ := c
  dsimp only at k0 k1 k2 ⊢
  go_enter Try.func9, Try.ntmps9
  cases b with
  | true =>
    go_wp2_with (first
      | (go_at_call 14; with_reducible refine (k0 _).mono ?_; rintro e w' ⟨rfl, hG⟩; obtain ⟨c0, c1, c2, c3, c4, c5⟩ := ((At.box1 ..).of hG).six; obtain ⟨d0, d1, d2⟩ := ((At.box2 ..).of hG).three)
      | (go_at_call 15; with_reducible refine (k2 _).mono ?_; rintro e w' ⟨rfl, hG'⟩))
    go_ret
    exact ⟨by simp, ((((Grew.refl _).alloc _).alloc _).trans hG).trans hG'⟩
  | false =>
    by_cases hr : r1 < 0
    · have hr' : decide (r1 < 0) = true := decide_eq_true hr
      rw [hr']
      go_wp2_with (first
        | (go_at_call 14; with_reducible refine (k0 _).mono ?_; rintro e w' ⟨rfl, hG⟩; obtain ⟨c0, c1, c2, c3, c4, c5⟩ := ((At.box1 ..).of hG).six; obtain ⟨d0, d1, d2⟩ := ((At.box2 ..).of hG).three)
        | (go_at_call 15; with_reducible refine (k1 _).mono ?_; rintro e w1 ⟨rfl, hG1⟩; clear c0 c1 c2 c3 c4 c5 d0 d1 d2; obtain ⟨c0, c1, c2, c3, c4, c5⟩ := (((At.box1 ..).of hG).of hG1).six; obtain ⟨d0, d1, d2⟩ := (((At.box2 ..).of hG).of hG1).three)
        | (go_at_call 15; with_reducible refine (k2 _).mono ?_; rintro e w2 ⟨rfl, hG2⟩))
      go_ret
      exact ⟨by simp, (((((Grew.refl _).alloc _).alloc _).trans hG).trans hG1).trans hG2⟩
    · have hr' : decide (r1 < 0) = false := decide_eq_false hr
      rw [hr']
      go_wp2_with (first
        | (go_at_call 14; with_reducible refine (k0 _).mono ?_; rintro e w' ⟨rfl, hG⟩; obtain ⟨c0, c1, c2, c3, c4, c5⟩ := ((At.box1 ..).of hG).six; obtain ⟨d0, d1, d2⟩ := ((At.box2 ..).of hG).three)
        | (go_at_call 15; with_reducible refine (k1 _).mono ?_; rintro e w1 ⟨rfl, hG1⟩))
      go_ret
      exact ⟨by simp, ((((Grew.refl _).alloc _).alloc _).trans hG).trans hG1⟩

/-- Do runs h and r overlap or meet? -/
def meetsR (h r : R6) : Bool := (sbC h r.2 || eqC h.1 r.2) && (sbC r h.2 || eqC r.1 h.2)

set_option maxHeartbeats 1000000 in
theorem meets17 (x y : R6) (W : World) : Calls Try.prog 17 #[vR x, vR y] W fun e w' => e = .returned (.bool (meetsR x y)) ∧ Grew W w' := by
  have k0 := fun W' => startsBefore21 x y.2 W'
  have k1 := fun W' => startsBefore21 y x.2 W'
  have q0 := fun W' => equal37 x.1 y.2 W'
  have q1 := fun W' => equal37 y.1 x.2 W'
  have k3 := guard37
  unfold meetsR
  generalize sbC x y.2 = b0 at k0 ⊢
  generalize sbC y x.2 = b1 at k1 ⊢
  generalize eqC x.1 y.2 = e0 at q0 ⊢
  generalize eqC y.1 x.2 = e1 at q1 ⊢
  unfold vR
  unfold vR vC at k0 k1
  unfold vC at q0 q1
  obtain ⟨⟨t, n, r⟩, ⟨t1, n1, r1'⟩⟩ := x
  obtain ⟨⟨u, m, s⟩, ⟨u1, m1, s1'⟩⟩ := y
  dsimp only at k0 k1 q0 q1 ⊢
  go_enter Try.func17, Try.ntmps17
  cases b0 with
  | true =>
    cases b1 with
    | true =>
      go_wp2_with (first
        | (go_at_call 21; with_reducible refine (k0 _).mono ?_; rintro e w' ⟨rfl, hG⟩; obtain ⟨c0, c1, c2, c3, c4, c5⟩ := ((At.box1 ..).of hG).six; obtain ⟨d0, d1, d2, d3, d4, d5⟩ := ((At.box2 ..).of hG).six)
        | (go_at_call 21; with_reducible refine (k1 _).mono ?_; rintro e w1 ⟨rfl, hG1⟩))
      go_ret
      exact ⟨by simp, ((((Grew.refl _).alloc _).alloc _).trans hG).trans hG1⟩
    | false =>
      go_wp2_with (first
        | (go_at_call 21; with_reducible refine (k0 _).mono ?_; rintro e w' ⟨rfl, hG⟩; obtain ⟨c0, c1, c2, c3, c4, c5⟩ := ((At.box1 ..).of hG).six; obtain ⟨d0, d1, d2, d3, d4, d5⟩ := ((At.box2 ..).of hG).six)
        | (go_at_call 21; with_reducible refine (k1 _).mono ?_; rintro e w1 ⟨rfl, hG1⟩; clear c0 c1 c2 c3 c4 c5 d0 d1 d2 d3 d4 d5; obtain ⟨c0, c1, c2, c3, c4, c5⟩ := (((At.box1 ..).of hG).of hG1).six; obtain ⟨d0, d1, d2, d3, d4, d5⟩ := (((At.box2 ..).of hG).of hG1).six))
      go_ret
      exact ⟨by simp, ((((Grew.refl _).alloc _).alloc _).trans hG).trans hG1⟩
  | false =>
    cases e0 with
    | true =>
      cases b1 with
      | true =>
        go_wp2_with (first
          | (go_at_call 21; with_reducible refine (k0 _).mono ?_; rintro e w' ⟨rfl, hG⟩; obtain ⟨c0, c1, c2, c3, c4, c5⟩ := ((At.box1 ..).of hG).six; obtain ⟨d0, d1, d2, d3, d4, d5⟩ := ((At.box2 ..).of hG).six)
          | (go_at_call 21; with_reducible refine (k1 _).mono ?_; rintro e w1 ⟨rfl, hG1⟩))
        go_ret
        exact ⟨by simp, ((((Grew.refl _).alloc _).alloc _).trans hG).trans hG1⟩
      | false =>
        go_wp2_with (first
          | (go_at_call 21; with_reducible refine (k0 _).mono ?_; rintro e w' ⟨rfl, hG⟩; obtain ⟨c0, c1, c2, c3, c4, c5⟩ := ((At.box1 ..).of hG).six; obtain ⟨d0, d1, d2, d3, d4, d5⟩ := ((At.box2 ..).of hG).six)
          | (go_at_call 21; with_reducible refine (k1 _).mono ?_; rintro e w1 ⟨rfl, hG1⟩; clear c0 c1 c2 c3 c4 c5 d0 d1 d2 d3 d4 d5; obtain ⟨c0, c1, c2, c3, c4, c5⟩ := (((At.box1 ..).of hG).of hG1).six; obtain ⟨d0, d1, d2, d3, d4, d5⟩ := (((At.box2 ..).of hG).of hG1).six))
        go_ret
        exact ⟨by simp, ((((Grew.refl _).alloc _).alloc _).trans hG).trans hG1⟩
    | false =>
      go_wp2_with (go_at_call 21; with_reducible refine (k0 _).mono ?_; rintro e w' ⟨rfl, hG⟩; obtain ⟨c0, c1, c2, c3, c4, c5⟩ := ((At.box1 ..).of hG).six; obtain ⟨d0, d1, d2, d3, d4, d5⟩ := ((At.box2 ..).of hG).six)
      go_ret
      exact ⟨by simp, (((Grew.refl _).alloc _).alloc _).trans hG⟩

/-- Where runs start. -/
def csR (r s : R6) : Int := if eqC r.1 s.1 then 0 else if zC r.1 then -1 else if zC s.1 then 1 else cmpC r.1 s.1

set_option maxHeartbeats 1000000 in
theorem compareStarts18 (x y : R6) (W : World) : Calls Try.prog 18 #[vR x, vR y] W fun e w' => e = .returned (.int .i64 (csR x y)) ∧ Grew W w' := by
  have k0 := fun W' => compare19 x.1 y.1 W'
  have q0 := fun W' => equal37 x.1 y.1 W'
  have q1 := fun W' => equal37 x.1 (0, 0, 0) W'
  have q2 := fun W' => equal37 y.1 (0, 0, 0) W'
  rw [eqC_zero] at q1 q2
  have k3 := guard37
  unfold csR
  generalize cmpC x.1 y.1 = rr at k0 ⊢
  generalize eqC x.1 y.1 = e0 at q0 ⊢
  generalize zC x.1 = e1 at q1 ⊢
  generalize zC y.1 = e2 at q2 ⊢
  unfold vR
  unfold vC at k0 q0 q1 q2
  obtain ⟨⟨t, n, r⟩, ⟨t1, n1, r1'⟩⟩ := x
  obtain ⟨⟨u, m, s⟩, ⟨u1, m1, s1'⟩⟩ := y
  dsimp only at k0 q0 q1 q2 ⊢
  go_enter Try.func18, Try.ntmps18
  cases e0 with
  | true =>
    go_wp2
    go_ret
    exact ⟨rfl, ((Grew.refl _).alloc _).alloc _⟩
  | false =>
    cases e1 with
    | true =>
      go_wp2
      go_ret
      exact ⟨rfl, ((Grew.refl _).alloc _).alloc _⟩
    | false =>
      cases e2 with
      | true =>
        go_wp2
        go_ret
        exact ⟨rfl, ((Grew.refl _).alloc _).alloc _⟩
      | false =>
        go_wp2_with (go_at_call 19; with_reducible refine (k0 _).mono ?_; rintro e w' ⟨rfl, hG⟩)
        go_ret
        exact ⟨rfl, (((Grew.refl _).alloc _).alloc _).trans hG⟩

end Go.Proofs.Qxb6627703a
