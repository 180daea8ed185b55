import Derived.Test.Qxb6627703aMake
import Derived.Deep.DeepCutAuto
namespace Go.Proofs.Qxb6627703a
open Go.RowKit Go.WideMaps Go.Maps
set_option linter.unusedSimpArgs false

def SmallV (V : Nat → List R6) : Prop := ∀ k, k < 65536 → (V k).length ≤ 1048576

set_option maxRecDepth 100000 in
set_option maxHeartbeats 4000000 in
theorem vector5 (mv : Value) (V : Nat → List R6) (w : World) (hM : InMap w mv V) (hS : SmallV V) :
    Calls Try.prog 5 #[mv] w fun e w' => e = .returned (.map (some w.heap.size)) ∧ Vec w' w.heap.size 65536 V ∧ Below w.heap.size w w' := by
  obtain ⟨i0, hi, hz0, hz1, hz2⟩ := info_parts Try.info39
  have hmm := @run_makeMap Try.prog
  have n33 := fun (w : World) a n c => run_neq_slice_nil_any (P := Try.prog) w 33 28 a n c 0 0 Try.underlying33
  have HM : Hid (InMap w mv V) := hM
  have HS : Hid (SmallV V) := hS
  clear hM hS
  go_enter Try.func5, Try.ntmps5
  go_wp2
  go_loopw [4] (fun i wr => ∃ k : Nat, (k : Int) ≤ 65536 ∧ i = .int .i64 k ∧ Hid (Vec wr w.heap.size k (VK V k)) ∧ Below w.heap.size w wr) (fun i _ => (65536 - intOf i).toNat)
  case atStart => exact ⟨0, by omega, rfl, Vec.empty w, (Below.refl _ _).alloc (Nat.le_refl _) _⟩
  case round =>
    obtain ⟨k, hk, rfl, HV, hB⟩ := hrel
    by_cases hlt : (k : Int) < 65536
    · obtain ⟨ok, s, hI⟩ := HM.out k (by omega)
      have hl := hI.lookOk wr hB
      have hw := wrapU16 (k := k) (by omega)
      have HI : Hid (InAt w mv k ok s (V k)) := hI
      have hlen := hI.len
      obtain ⟨ao, len, cap⟩ := s
      unfold vS at hl
      dsimp only at hl hlen
      clear hI
      cases ok with
      | false =>
        have HN : Hid (V k = []) := HI.out.no rfl
        clear hlen
        go_wp2
        go_roundw
        case rel => exact ⟨k + 1, by omega, by go_num, by
          show Vec _ _ _ _
          rw [← VK_nil HN.out]
          obtain ⟨n, D, S, hn, r⟩ := HV.out
          exact ⟨n, D, S, by omega, r⟩, hB⟩
        case measure => simp [intOf]; omega
      | true =>
        cases ao with
        | none =>
          have HN : Hid (V k = []) := HI.out.nil rfl
          have HLe : Hid (len = (V k).length) := hlen
          clear hlen
          obtain ⟨n, D, S, hn, ho, hat, hrow⟩ := HV.out
          have HA : Hid (∀ k, k < 65536 → D.atKey (kl k) (.held (none, 0, 0)) = .held (S k)) := hat
          have HR : Hid (∀ j, j < 65536 → Row wr w.heap.size (S j) (VK V k j)) := hrow
          clear hat hrow
          go_wp2_with (at_mapUpdate; refine wpList_mapUpdate_own _ rfl _ _ _ 31 rfl 35 50 law35 Try.underlying31 R w.heap.size n D rfl ho (by unfold maxLen; omega) _ _ (kl k) rfl rfl (key35 (by omega)) _ [] (R_mk (none, 0, 0)) ?_; intro w1 ho1 hg1)
          go_roundw
          case rel => exact ⟨k + 1, by omega, by go_num, by
            have h := Vec.put (l := V k) ho HA.out HR.out ho1 hg1 ⟨by rw [HN.out]; rfl, by rw [HN.out]; exact fun k hk => absurd hk (Nat.not_lt_zero _), fun a h => by cases h⟩
            rw [VK_put] at h
            obtain ⟨n', D', S', hn', r⟩ := h
            exact ⟨n', D', S', by omega, r⟩, hB.grown hg1 hB.size (fun j hj => by cases hj; exact Nat.le_refl _)⟩
          case measure => simp [intOf]; omega
        | some ad =>
          have HLe : Hid (len = (V k).length) := hlen
          have hl20 : len ≤ 1048576 := by rw [hlen]; exact HS.out k (by omega)
          have HRu : Hid (RunsAt w (some ad) len (fn (V k))) := by
            have h := HI.out.runs
            rw [← hlen] at h
            exact h
          clear hlen
          have hvl := HV.out.lt
          go_wp2_with (at_make; refine wpList_make_full _ rfl _ _ 50 rfl wr.heap.size 39 i0 _ 6 Try.underlying50 hi hz0 hz1 _ _ _ _ len rfl rfl rfl rfl ?b2 ?b3 ?b4 ?_)
          · rw [hz2]; omega
          · unfold maxLen; omega
          · simp
          intro w1 hown hgr
          have hroom := Room.of_owns hown
          have hb1 : Below wr.heap.size wr w1 := (Below.refl _ _).grown hgr (Nat.le_refl _) (by intro k h; cases h)
          clear hown hgr
          obtain ⟨wo, hwo⟩ : ∃ x, x = wr := ⟨_, rfl⟩
          subst hwo
          go_wp2
          go_loopw [8] (fun i wx => ∃ j : Nat, j ≤ len ∧ i = .int .i64 j ∧ Room wx wo.heap.size (len * 6) ∧ Hid (RunsAt wx (some ⟨wo.heap.size, 0, none⟩) j (fn (V k))) ∧ Below wo.heap.size wo wx) (fun i _ => len - (intOf i).toNat)
          case atStart => exact ⟨0, by omega, rfl, hroom, fun j hj => absurd hj (Nat.not_lt_zero _), hb1⟩
          case round =>
            clear hroom hb1
            obtain ⟨j, hj, rfl, hroom, HF, hB2⟩ := hrel
            have hg := hroom.lt
            have hBw : Below w.heap.size w wr := hB.trans (hB2.mono (Nat.le_of_lt hvl))
            by_cases hjl : j < len
            · obtain ⟨b, off, h0, hbl, c0', c1', c2', c3', c4', c5'⟩ := HRu.out j hjl
              injection h0 with h0
              subst h0
              have c0 := (hBw.cell (p := ⟨b, off + j * 6, none⟩) hbl).trans c0'
              have c1 := (hBw.cell (p := ⟨b, off + j * 6 + 1, none⟩) hbl).trans c1'
              have c2 := (hBw.cell (p := ⟨b, off + j * 6 + 2, none⟩) hbl).trans c2'
              have c3 := (hBw.cell (p := ⟨b, off + j * 6 + 3, none⟩) hbl).trans c3'
              have c4 := (hBw.cell (p := ⟨b, off + j * 6 + 4, none⟩) hbl).trans c4'
              have c5 := (hBw.cell (p := ⟨b, off + j * 6 + 5, none⟩) hbl).trans c5'
              have hT := fun W => toRun12 (fn (V k) j) W
              obtain ⟨x, hx⟩ : ∃ x, x = fn (V k) j := ⟨_, rfl⟩
              have HX : Hid (x = fn (V k) j) := hx
              rw [← hx] at hT c0 c1 c2 c3 c4 c5
              clear c0' c1' c2' c3' c4' c5' hx hBw hl
              obtain ⟨⟨t, n, r⟩, ⟨t', n', r'⟩⟩ := x
              unfold vR at hT
              dsimp only at hT c0 c1 c2 c3 c4 c5
              go_wp2_with (go_at_call 12; with_reducible refine (hT _).mono ?_; rintro e w2 ⟨rfl, hG2⟩; have hroom2 := hroom.of hG2; obtain ⟨v0, g0⟩ := hroom2.cell (j * 6) (by omega); obtain ⟨v1, g1⟩ := hroom2.cell (j * 6 + 1) (by omega); obtain ⟨v2, g2⟩ := hroom2.cell (j * 6 + 2) (by omega); obtain ⟨v3, g3⟩ := hroom2.cell (j * 6 + 3) (by omega); obtain ⟨v4, g4⟩ := hroom2.cell (j * 6 + 4) (by omega); obtain ⟨v5, g5⟩ := hroom2.cell (j * 6 + 5) (by omega); have fz := hroom2.frz)
              go_roundw
              case rel => exact ⟨j + 1, by omega, by go_num, hroom2.put6 _ (j * 6) ((t, n, r), (t', n', r')), by
                have h := runs_put (HF.out.below hG2.below) hroom2 (by omega)
                rw [← HX.out] at h
                exact h, Below.put6 (hB2.trans (hG2.below.mono hB2.size)) (Nat.le_refl _) (j * 6) ((t, n, r), (t', n', r'))⟩
              case measure => simp [intOf]; omega
            · obtain rfl : j = len := by omega
              obtain ⟨n, D, S, hn, ho, hat, hrow⟩ := HV.out.below (hB2)
              have HA : Hid (∀ k, k < 65536 → D.atKey (kl k) (.held (none, 0, 0)) = .held (S k)) := hat
              have HR : Hid (∀ j, j < 65536 → Row wr w.heap.size (S j) (VK V k j)) := hrow
              clear hat hrow
              go_wp2_with (at_mapUpdate; refine wpList_mapUpdate_own _ rfl _ _ _ 31 rfl 35 50 law35 Try.underlying31 R w.heap.size n D rfl ho (by unfold maxLen; omega) _ _ (kl k) rfl rfl (key35 (by omega)) _ [] (R_mk (some ⟨wo.heap.size, 0, none⟩, j, j)) ?_; intro w1 ho1 hg1)
              go_roundw
              case rel => exact ⟨k + 1, by omega, by go_num, by
                have hRow : Row wr w.heap.size (some ⟨wo.heap.size, 0, none⟩, j, j) (V k) := ⟨HLe.out, by rw [← HLe.out]; exact HF.out, fun a h => by injection h with h; subst h; exact Nat.ne_of_gt hvl⟩
                have h := Vec.put (l := V k) ho HA.out HR.out ho1 hg1 hRow
                rw [VK_put] at h
                obtain ⟨n', D', S', hn', r⟩ := h
                exact ⟨n', D', S', by omega, r⟩, hBw.grown hg1 hBw.size (fun j hj => by cases hj; exact Nat.le_refl _)⟩
              case measure => simp [intOf]; omega
    · obtain rfl : k = 65536 := by omega
      go_wp2
      go_ret
      refine ⟨rfl, ?_, hB⟩
      obtain ⟨n, D, S, hn, ho, hat, hrow⟩ := HV.out
      exact ⟨n, D, S, hn, ho, hat, fun k hk => by have := hrow k hk; rwa [VK, if_pos hk] at this⟩

end Go.Proofs.Qxb6627703a
