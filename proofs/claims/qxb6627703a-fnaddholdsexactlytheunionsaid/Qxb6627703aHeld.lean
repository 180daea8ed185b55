import Derived.Test.Qxb6627703aVec
namespace Go.Proofs.Qxb6627703a
open Go.RowKit Go.WideMaps Go.Maps
set_option linter.unusedSimpArgs false

theorem heldL_take {l : List R6} {k : Nat} (hk : k < l.length) (c : C3) : heldL (l.take (k + 1)) c = (heldL (l.take k) c || inR (fn l k) c) := by
  have e : fn l k = l[k] := by simp [fn, List.getD, List.getElem?_eq_getElem hk]
  unfold heldL
  rw [List.take_succ_eq_append_getElem hk, e, List.any_append]
  simp
theorem heldL_next {l : List R6} {k : Nat} {c : C3} (hk : k < l.length) (h : heldL (l.take k) c = false) (h2 : inR (fn l k) c = false) : heldL (l.take (k + 1)) c = false := by
  rw [heldL_take hk, h, h2]; rfl
theorem heldL_some {l : List R6} {k : Nat} (hk : k < l.length) {c : C3} (h : inR (fn l k) c = true) : heldL l c = true := by
  have e : fn l k = l[k] := by simp [fn, List.getD, List.getElem?_eq_getElem hk]
  rw [heldL_iff]
  exact ⟨l[k], List.getElem_mem hk, by rw [← e]; exact h⟩
theorem At.box0 (W : World) (vs : Array Value) (T : TypeId) : At (W.alloc (.cells vs T)) W.heap.size vs :=
  ⟨by simp, fun k v hv => by
    have e : (W.alloc (.cells vs T)).heap[W.heap.size]? = some (.cells vs T) := heap_alloc_new _ _
    unfold World.cell?
    rw [e]
    exact hv⟩

set_option maxRecDepth 100000 in
set_option maxHeartbeats 2000000 in
theorem held8 (ao : Option Addr) (cap : Nat) (l : List R6) (c : C3) (w : World) (hl : l.length ≤ 1048577) (hR : RunsAt w ao l.length (fn l)) :
    Calls Try.prog 8 #[.slice ao l.length cap, vC c] w fun e w' => e = .returned (.bool (heldL l c)) ∧ Grew w w' := by
  obtain ⟨L, hL⟩ : ∃ L, L = l.length := ⟨_, rfl⟩
  have HE : Hid (L = l.length) := hL
  rw [← hL] at hR hl ⊢
  clear hL
  have HC : Hid (vC c = .agg #[.int .i64 c.1, .int .u64 c.2.1, .int .u16 c.2.2]) := rfl
  rw [HC.out]
  go_enter Try.func8, Try.ntmps8
  go_wp2
  go_loopw [5] (fun i wr => ∃ k : Nat, k ≤ L ∧ i = .int .i64 k ∧ Grew (w.alloc (.cells #[.int .i64 c.1, .int .u64 c.2.1, .int .u16 c.2.2] 26)) wr ∧ Hid (heldL (l.take k) c = false)) (fun i _ => L - (intOf i).toNat)
  case atStart => exact ⟨0, by omega, rfl, Grew.refl _, by show _ = _; simp [heldL]⟩
  case round =>
    obtain ⟨k, hk, rfl, hG, HH⟩ := hrel
    by_cases hlt : k < L
    · obtain ⟨b, off, rfl, hbl, c0', c1', c2', c3', c4', c5'⟩ := hR k hlt
      have hG' : Grew w wr := ((Grew.refl _).alloc _).trans hG
      have c0 := hG'.cell (p := ⟨b, off + k * 6, none⟩) hbl c0'
      have c1 := hG'.cell (p := ⟨b, off + k * 6 + 1, none⟩) hbl c1'
      have c2 := hG'.cell (p := ⟨b, off + k * 6 + 2, none⟩) hbl c2'
      have c3 := hG'.cell (p := ⟨b, off + k * 6 + 3, none⟩) hbl c3'
      have c4 := hG'.cell (p := ⟨b, off + k * 6 + 4, none⟩) hbl c4'
      have c5 := hG'.cell (p := ⟨b, off + k * 6 + 5, none⟩) hbl c5'
      obtain ⟨x0, x1, x2⟩ := ((At.box0 ..).of hG).three
      have hI := fun W => zzIn9 (fn l k) c W
      rw [HC.out] at hI
      clear hR c0' c1' c2' c3' c4' c5' hG'
      cases hb : inR (fn l k) c with
      | true =>
        have HR : Hid (heldL l c = true) := heldL_some (by have := HE.out; omega) hb
        rw [hb] at hI
        clear hb
        generalize fn l k = x at *
        obtain ⟨⟨t, n, r⟩, ⟨t', n', r'⟩⟩ := x
        unfold vR at hI
        dsimp only at hI c0 c1 c2 c3 c4 c5
        go_wp2_with fail
        go_region_with (go_at_call 9; with_reducible refine (hI _).mono ?_; rintro e w2 ⟨rfl, hG2⟩)
        all_goals
          go_wp2
          go_ret
          exact ⟨by rw [HR.out]; rfl, ((((Grew.refl _).alloc _).trans hG).drew).trans hG2⟩
      | false =>
        have HN : Hid (heldL (l.take (k + 1)) c = false) := heldL_next (by have := HE.out; omega) HH.out hb
        rw [hb] at hI
        clear hb
        generalize fn l k = x at *
        obtain ⟨⟨t, n, r⟩, ⟨t', n', r'⟩⟩ := x
        unfold vR at hI
        dsimp only at hI c0 c1 c2 c3 c4 c5
        go_wp2_with fail
        go_region_with (go_at_call 9; with_reducible refine (hI _).mono ?_; rintro e w2 ⟨rfl, hG2⟩)
        all_goals
          go_wp2
          go_roundw
          case rel => exact ⟨k + 1, by omega, by go_num, (hG.drew).trans hG2, HN⟩
          case measure => simp [intOf]; omega
    · obtain rfl : k = L := by omega
      have HR : Hid (heldL l c = false) := by
        have h := HH.out
        rw [HE.out, List.take_length] at h
        exact h
      clear hR
      go_wp2
      go_ret
      exact ⟨by rw [HR.out]; rfl, ((Grew.refl _).alloc _).trans hG⟩

end Go.Proofs.Qxb6627703a
