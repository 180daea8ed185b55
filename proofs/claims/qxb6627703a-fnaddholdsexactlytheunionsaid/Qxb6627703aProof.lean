import Derived.Test.Qxb6627703aInMap
namespace Go.Proofs.Qxb6627703a.fnAddHoldsExactlyTheUnionDone
open Go.ChangeShapes Go.WideShapes Go.ChangeAt Go.RowKit
set_option linter.unusedVariables false

theorem own : ownKnob Try.prog.godebug = none := by kernel_rfl
theorem laidOut : laidOutB Try.prog = true := by kernel_rfl

theorem agg28 {W : World} {r : Reach} {base : Nat} {v : Value} (h : Value.okWide Try.prog W r base 28 v) : ∃ cs, v = .agg cs := by
  simp only [Value.okWide, Try.underlying28] at h
  obtain ⟨cs, e, _⟩ := h
  exact ⟨cs, e⟩
theorem agg26 {W : World} {r : Reach} {base : Nat} {v : Value} (h : Value.okWide Try.prog W r base 26 v) : ∃ cs, v = .agg cs := by
  simp only [Value.okWide, Try.underlying26] at h
  obtain ⟨cs, e, _⟩ := h
  exact ⟨cs, e⟩

set_option maxRecDepth 100000 in
theorem lifted (os : Os) (started : os.Started) (H : Type) (enc : TypeId × Value → H) :
    ReturnsInHanded {} Try.checked os 3 .any (Rows.fnAddHoldsExactlyTheUnionSpec.pre6 enc Try.prog Try.f3 Rows.fnAddHoldsExactlyTheUnionRow.domain false) (Rows.fnAddHoldsExactlyTheUnionSpec.post enc Try.prog Try.f3 false true false false) := by
  refine returnsInHanded_of_change (C := Try.checked) own started (by kernel_rfl) Try.func3
    (ChangeSpec.witness6 (enc := enc) (C := Try.checked) false ⟨#[], #[.map none, .agg #[.int .i64 0, .int .u64 0, .int .u16 0, .int .i64 0, .int .u64 0, .int .u16 0], .agg #[.int .i64 0, .int .u64 0, .int .u16 0]], []⟩ 8 (by kernel_rfl) (by kernel_rfl) (by kernel_rfl) (by kernel_rfl)) ?_
  intro W base args ds gs before hval0 hW hcnd _
  have hval : ∀ (j : Nat) t v, Try.f3.params[j]? = some t → args[j]? = some v → Value.okWide Try.prog W .any base t v := hval0
  have hW' := hW
  obtain ⟨p, q, hA0, hV, rfl, hfz, hnd⟩ := hW
  have hA : DataW.TrodAll enc Try.prog W 0 (fun _ => true) true Try.f3.params.toList args.toList ds p := hA0
  rw [Try.params3] at hA hval
  obtain ⟨v0, vs0, d0, ds0, p0, q0, hargs, rfl, rfl, h0, r0⟩ := trodAll_cons hA
  obtain ⟨v1, vs1, d1, ds1, p1, q1, rfl, rfl, rfl, h1, r1⟩ := trodAll_cons r0
  obtain ⟨v2, vs2, d2, ds2, p2, q2, rfl, rfl, rfl, h2, r2⟩ := trodAll_cons r1
  obtain ⟨rfl, rfl, rfl⟩ := trodAll_nil r2
  obtain rfl : args = #[v0, v1, v2] := by cases args; simp_all
  obtain ⟨rfl, rfl⟩ := trodVars_none hV
  obtain ⟨a0, rfl⟩ := okWide_map Try.underlying22 (hval 0 22 v0 rfl rfl)
  obtain ⟨cs1, rfl⟩ := agg28 (hval 1 28 v1 rfl rfl)
  obtain ⟨cs2, rfl⟩ := agg26 (hval 2 26 v2 rfl rfl)
  have k0 := h0
  have lt0 : ∀ x ∈ p0, x.block < W.heap.size := by obtain ⟨m, hm⟩ := k0; exact DataW.trod_lt m _ _ _ hm
  obtain ⟨f0, hf0⟩ := h0
  obtain ⟨V, hM⟩ := open_inmap (by simpa [Value.cells] using hf0)
  have k1 := h1
  have lt1 : ∀ x ∈ p1, x.block < W.heap.size := by obtain ⟨m, hm⟩ := k1; exact DataW.trod_lt m _ _ _ hm
  obtain ⟨f1, hf1⟩ := h1
  obtain ⟨r, er, g1, g2⟩ := open_run (by simpa [Value.cells] using hf1)
  have k2 := h2
  have lt2 : ∀ x ∈ p2, x.block < W.heap.size := by obtain ⟨m, hm⟩ := k2; exact DataW.trod_lt m _ _ _ hm
  obtain ⟨f2, hf2⟩ := h2
  obtain ⟨c, ec, g3⟩ := open_csn (by simpa [Value.cells] using hf2)
  have e1 : Value.agg cs1 = vR r := by
    have : cs1 = (encR r).toArray := by rw [← er]
    rw [this]
    rfl
  have e2 : Value.agg cs2 = vC c := by
    have : cs2 = (encC c).toArray := by rw [← ec]
    rw [this]
    rfl
  clear hA0 hval0
  have hcall := law3 (.map a0) V r c W hM g3 g1 g2
  rw [← e1, ← e2] at hcall
  refine hcall.mono fun e W' ⟨he, bel⟩ => ?_
  subst he
  exact ⟨_, rfl, _, _, _, [], _, [], hW', trodAll_mk1 (shut_bool Try.underlying4 _), (trodAll_cons_mk (Below.trod laidOut (by kernel_rfl) (of_decide_eq_true (by kernel_rfl)) k0 bel lt0) (trodAll_cons_mk (Below.trod laidOut (by kernel_rfl) (of_decide_eq_true (by kernel_rfl)) k1 bel lt1) (trodAll_cons_mk (Below.trod laidOut (by kernel_rfl) (of_decide_eq_true (by kernel_rfl)) k2 bel lt2) trodAll_mk0))), rfl, bel.frame _, fun h => by cases h⟩

theorem over : Rows.fnAddHoldsExactlyTheUnionRow.holds Try.pinned (OpenSpec.ofChange Rows.fnAddHoldsExactlyTheUnionSpec) :=
  OpenClaim.holds_of_wide 3 Try.f3 rfl rfl rfl rfl rfl rfl rfl ⟨rfl, rfl, rfl, rfl, rfl⟩ rfl rfl rfl rfl rfl (by kernel_rfl) Try.func3 (by kernel_rfl)
    (of_decide_eq_true (by kernel_rfl)) (by unfold Func.isWrapper; first | (rw [if_pos (by decide +kernel)]; kernel_rfl) | (rw [if_neg (by decide +kernel)]; exact ⟨rfl, rfl⟩))
    (fun os started H enc _ => lifted os started H enc)

end Go.Proofs.Qxb6627703a.fnAddHoldsExactlyTheUnionDone
namespace Go.Proofs.Qxb6627703a
theorem fnAddHoldsExactlyTheUnion_proved : Rows.FnAddHoldsExactlyTheUnionSaid := fnAddHoldsExactlyTheUnionDone.over
#print axioms fnAddHoldsExactlyTheUnion_proved
end Go.Proofs.Qxb6627703a
