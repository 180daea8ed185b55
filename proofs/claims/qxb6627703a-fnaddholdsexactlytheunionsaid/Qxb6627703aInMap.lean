import Derived.Test.Qxb6627703aOpen
namespace Go.Proofs.Qxb6627703a
open Go.RowKit Go.Deep Go.ChangeShapes Go.Maps
open Go.WideElems (Fit rd elemAt rd_key rd_val)

theorem law24 : Keyed Try.prog 24 := int_keyed Try.underlying24
theorem zero33 (w : World) : (zeroValue 33).run Try.prog w = .ok (.slice none 0 0) w := by kernel_rfl
theorem key24 {k : Nat} (h : k < 65536) : keyOf Try.prog 24 (.int .u16 k) = some (kl k) := keyOf_int_mk Try.underlying24 (wfk h)
theorem owns_of24 {w w' : World} {vb n : Nat} {D : DataW Sl} (h : w.ownsMap Try.prog 24 R vb n D) (e : w'.heap[vb]? = w.heap[vb]?) : w'.ownsMap Try.prog 24 R vb n D := by
  obtain ⟨es, ck, hb, hF, hsz, hD⟩ := h
  exact ⟨es, ck, e.trans hb, hF, hsz, hD⟩

section
variable {H : Type} {enc : TypeId × Value → H} {w : World} {base : Nat} {held : Bool}

theorem elem_slice {n : Nat} {v : Value} {z : DataW H × List MemPlace} (h : elemAt enc Try.prog w base (fun _ => true) held n 33 v = some z) :
    ∃ s : Sl, v = vS s ∧ ∃ l : List R6, s.2.1 = l.length ∧ (s.1 = none → l = []) ∧ RunsAt w s.1 l.length (fn l) ∧ ∀ x ∈ l, Rg x.1 ∧ Rg x.2 := by
  unfold elemAt at h
  split at h
  · rename_i hf
    obtain ⟨s, e, rest⟩ := open_runs h
    refine ⟨s, ?_, rest⟩
    cases v <;> simp [Value.cells, vS] at e
    case agg cs => simp [Value.formed, Try.underlying33] at hf
    case slice a l c =>
      unfold vS
      rw [e.1, e.2.1, e.2.2]
  · cases h

theorem open_inmap {fuel : Nat} {a : Option Nat} {x : DataW H × List MemPlace} (h : DataW.trod enc Try.prog w base (fun _ => true) held fuel 22 [.map a] = some x) : ∃ V, InMap w (.map a) V := by
  rcases Go.WideElems.open_map Try.underlying22 h with ⟨e, _⟩ | ⟨b, es, clock, n, _, e, hb, _, F, _⟩
  · simp only [List.cons.injEq, Value.map.injEq, and_true] at e
    subst e
    refine ⟨fun _ => [], fun k hk => ⟨false, (none, 0, 0), ?_, ?_, rfl, fun _ => rfl, fun _ => rfl, fun k hk => absurd hk (Nat.not_lt_zero _), fun x hx => by cases hx⟩⟩
    · intro W _
      exact Maps.look_nil false law24 Try.underlying22 (zero33 W) (key24 hk)
    · intro W _
      exact Maps.look_nil true law24 Try.underlying22 (zero33 W) (key24 hk)
  · simp only [List.cons.injEq, Value.map.injEq, and_true] at e
    subst e
    have F' : Fit Try.prog 24 R es clock := ⟨F.size, F.stamped, fun y hy => by
      obtain ⟨z, hz⟩ := F.reads y hy
      obtain ⟨z', hz', _⟩ := rd_val hz
      obtain ⟨s, hs, _⟩ := elem_slice hz'
      exact ⟨(z.1, .held s), by simp [rd, rd_key hz, hs, R_mk]⟩⟩
    have hlt : b < w.heap.size := (Array.getElem?_eq_some_iff.1 hb).1
    have ho : w.ownsMap Try.prog 24 R b es.size (.map ((es.toList.map (Go.WideElems.rg Try.prog 24 R)).foldr DataW.insert [])) := ⟨es, clock, hb, F', Nat.le_refl _, rfl⟩
    generalize hD : (DataW.map ((es.toList.map (Go.WideElems.rg Try.prog 24 R)).foldr DataW.insert []) : DataW Sl) = D at ho
    have key : ∀ k, k < 65536 → ∃ l : List R6, ∃ ok s, InAt w (.map (some b)) k ok s l := by
      intro k hk
      have mk : ∀ (s : Sl) (l : List R6) (ok : Bool), D.atKey (kl k) (.held (none, 0, 0)) = .held s → Maps.has D (kl k) = ok → s.2.1 = l.length → (ok = false → l = []) → (s.1 = none → l = []) → RunsAt w s.1 l.length (fn l) → (∀ x ∈ l, Rg x.1 ∧ Rg x.2) →
          InAt w (.map (some b)) k ok s l := by
        intro s l ok hat hhas hlen hno hnil hruns hrng
        refine ⟨fun W hW => ?_, fun W hW => ?_, hlen, hno, hnil, hruns, fun x hx => ⟨(hrng x hx).1, (hrng x hx).2⟩⟩
        · obtain ⟨v, ps, hrun, hv⟩ := (owns_of24 ho (hW.block b hlt)).lookup (t := 22) law24 Try.underlying22 (zero33 W) (R_mk (none, 0, 0)) (key24 hk)
          obtain ⟨s', rfl, hs⟩ := R_inv hv
          have := hat.symm.trans hs
          injection this with this
          rw [this]
          exact hrun
        · obtain ⟨v, ps, hrun, hv⟩ := (owns_of24 ho (hW.block b hlt)).look_ok (t := 22) law24 Try.underlying22 (zero33 W) (R_mk (none, 0, 0)) (key24 hk)
          obtain ⟨s', rfl, hs⟩ := R_inv hv
          have := hat.symm.trans hs
          injection this with this
          rw [this, ← hhas]
          exact hrun
      rcases Maps.fit_look true law24 Try.underlying22 (zero33 w) hb F' (key24 hk) with ⟨_, _, hat⟩ | ⟨e0, y, hmem, _, _, hRv, hat, _⟩
      · rw [hD] at hat
        exact ⟨[], false, (none, 0, 0), mk _ _ _ (hat _) (Maps.has_false_of_atKey hat) rfl (fun _ => rfl) (fun _ => rfl) (fun k hk => absurd hk (Nat.not_lt_zero _)) (fun x hx => by cases hx)⟩
      · rw [hD] at hat
        obtain ⟨z, hz⟩ := F.reads e0 hmem
        obtain ⟨z', hz', _⟩ := rd_val hz
        obtain ⟨s, hs, l, h1, h2, h3, h4⟩ := elem_slice hz'
        rw [hs, R_mk] at hRv
        injection hRv with hRv
        have hat' := hat (.held (none, 0, 0))
        rw [← hRv] at hat'
        exact ⟨l, true, s, mk s l true hat' (Maps.has_true_of_atKey hat) h1 (fun q => by cases q) h2 h3 h4⟩
    obtain ⟨V, hV⟩ := choose_lt key
    exact ⟨V, fun k hk => hV k hk⟩
end

end Go.Proofs.Qxb6627703a
