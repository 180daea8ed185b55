import Derived.Test.Qxb6627599aFirst
import Derived.Test.Qxb6627599aOpen
namespace Go.Proofs.Qxb6627599a.fnMonitorFirstAmongMatchesDone
open Go.ChangeShapes Go.WideShapes Go.ChangeAt Go.RowKit
open Go.ChangeMaps (open_string shut_string)
set_option linter.unusedVariables false

theorem own : ownKnob Try.prog.godebug = none := by kernel_rfl
theorem laidOut : laidOutB Try.prog = true := by kernel_rfl

set_option maxRecDepth 100000 in
theorem lifted (os : Os) (started : os.Started) (H : Type) (enc : TypeId × Value → H) :
    ReturnsInHanded {} Try.checked os 4 .any (Rows.fnMonitorFirstAmongMatchesSpec.pre6 enc Try.prog Try.f4 Rows.fnMonitorFirstAmongMatchesRow.domain false) (Rows.fnMonitorFirstAmongMatchesSpec.post enc Try.prog Try.f4 false true false false) := by
  refine returnsInHanded_of_change_sized (C := Try.checked) own started (by kernel_rfl) Try.func4
    (ChangeSpec.witness6 (enc := enc) (C := Try.checked) false ⟨#[], #[.string ⟨#[]⟩, .slice none 0 0, .slice none 0 0, .string ⟨#[]⟩], []⟩ 8 (by kernel_rfl) (by kernel_rfl) (by kernel_rfl) (by kernel_rfl)) ?_
  intro W base args ds gs before hval0 hW hcnd hsz0 _
  have hsz : (DataW.weightsEach Try.prog (Try.f4.params.toList ++ Rows.fnMonitorFirstAmongMatchesSpec.plain.varTypes Try.prog) (ds ++ gs)).all (· ≤ reachBytes) = true := hsz0
  clear hsz0
  have hval : ∀ (j : Nat) t v, Try.f4.params[j]? = some t → args[j]? = some v → Value.okWide Try.prog W .any base t v := hval0
  have hW' := hW
  obtain ⟨p, q, hA0, hV, rfl, hfz, hnd⟩ := hW
  have hA : DataW.TrodAll enc Try.prog W 0 (fun _ => true) true Try.f4.params.toList args.toList ds p := hA0
  rw [Try.params4] at hA hval hsz
  obtain ⟨v0, vs0, d0, ds0, p0, q0, hargs, rfl, rfl, h0, r0⟩ := trodAll_cons hA
  obtain ⟨v1, vs1, d1, ds1, p1, q1, rfl, rfl, rfl, h1, r1⟩ := trodAll_cons r0
  obtain ⟨v2, vs2, d2, ds2, p2, q2, rfl, rfl, rfl, h2, r2⟩ := trodAll_cons r1
  obtain ⟨v3, vs3, d3, ds3, p3, q3, rfl, rfl, rfl, h3, r3⟩ := trodAll_cons r2
  obtain ⟨rfl, rfl, rfl⟩ := trodAll_nil r3
  obtain rfl : args = #[v0, v1, v2, v3] := by cases args; simp_all
  obtain ⟨rfl, rfl⟩ := trodVars_none hV
  obtain ⟨pw, rfl, rfl, rfl, zpw⟩ := open_string Try.underlying9 (hval 0 9 v0 rfl rfl) h0
  obtain ⟨a1, len1, cap1, rfl⟩ := okWide_slice Try.underlying22 (hval 1 22 v1 rfl rfl)
  obtain ⟨a2, len2, cap2, rfl⟩ := okWide_slice Try.underlying23 (hval 2 23 v2 rfl rfl)
  obtain ⟨id, rfl, rfl, rfl, zid⟩ := open_string Try.underlying9 (hval 3 9 v3 rfl rfl) h3
  have k1 := h1
  have lt1 : ∀ x ∈ p1, x.block < W.heap.size := by obtain ⟨m, hm⟩ := k1; exact DataW.trod_lt m _ _ _ hm
  have k2 := h2
  have lt2 : ∀ x ∈ p2, x.block < W.heap.size := by obtain ⟨m, hm⟩ := k2; exact DataW.trod_lt m _ _ _ hm
  obtain ⟨f1, hf1⟩ := h1
  obtain ⟨f2, hf2⟩ := h2
  obtain ⟨hlc1, hd1, M, hM⟩ := open_mons (by simpa [Value.cells] using hf1)
  obtain ⟨hlc2, hd2, hS⟩ := open_sets (by simpa [Value.cells] using hf2)
  have hr1 : cap1 * 64 ≤ 140737488355328 ∧ (a1 = none → cap1 = 0) := by
    rcases hd1 with ⟨rfl, rfl, rfl⟩ | ⟨a, el, sp, rfl, hd, hlen⟩
    · exact ⟨by omega, fun _ => rfl⟩
    · refine ⟨?_, by intro e; cases e⟩
      simp only at hd
      subst hd
      have := sized_slice hsz (j := 1) (t := 22) (e := 36) rfl rfl Try.underlying22
      rw [Try.bytes36, hlen] at this
      simp only [reachBytes] at this
      omega
  have hr2 : len2 * 80 ≤ 140737488355328 := by
    rcases hd2 with ⟨rfl, rfl, rfl⟩ | ⟨a, el, sp, rfl, hd, hlen⟩
    · omega
    · simp only at hd
      subst hd
      have := sized_slice hsz (j := 2) (t := 23) (e := 41) rfl rfl Try.underlying23
      rw [Try.bytes41, hlen] at this
      simp only [reachBytes] at this
      omega
  clear hA0 hval0
  refine (walk4 pw id a1 a2 len1 cap1 len2 cap2 M W zpw zid hlc1 hr1.2 hr1.1 hr2 hM hS).mono fun e W' ⟨he, bel⟩ => ?_
  subst he
  exact ⟨_, rfl, _, _, _, [], _, [], hW', trodAll_mk1 (shut_bool Try.underlying4 _), (trodAll_cons_mk (shut_string Try.underlying9 zpw) (trodAll_cons_mk (Below.trod laidOut (by kernel_rfl) (of_decide_eq_true (by kernel_rfl)) k1 bel lt1) (trodAll_cons_mk (Below.trod laidOut (by kernel_rfl) (of_decide_eq_true (by kernel_rfl)) k2 bel lt2) (trodAll_cons_mk (shut_string Try.underlying9 zid) trodAll_mk0)))), rfl, bel.frame _, fun h => by cases h⟩

theorem over : Rows.fnMonitorFirstAmongMatchesRow.holds Try.pinned (OpenSpec.ofChange Rows.fnMonitorFirstAmongMatchesSpec) :=
  OpenClaim.holds_of_wide 4 Try.f4 rfl rfl rfl rfl rfl rfl rfl ⟨rfl, rfl, rfl, rfl, rfl⟩ rfl rfl rfl rfl rfl (by kernel_rfl) Try.func4 (by kernel_rfl)
    (of_decide_eq_true (by kernel_rfl)) (by unfold Func.isWrapper; first | (rw [if_pos (by decide +kernel)]; kernel_rfl) | (rw [if_neg (by decide +kernel)]; exact ⟨rfl, rfl⟩))
    (fun os started H enc _ => lifted os started H enc)

end Go.Proofs.Qxb6627599a.fnMonitorFirstAmongMatchesDone
namespace Go.Proofs.Qxb6627599a
theorem fnMonitorFirstAmongMatches_proved : Rows.FnMonitorFirstAmongMatchesSaid := fnMonitorFirstAmongMatchesDone.over
#print axioms fnMonitorFirstAmongMatches_proved
end Go.Proofs.Qxb6627599a
