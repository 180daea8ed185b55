import Derived.Test.Qxb6627675aKeeps
namespace Go.Proofs.Qxb6627675a
open Go.RowKit Go.WideMaps Go.Maps
set_option linter.unusedSimpArgs false

theorem inL_append (s : ByteArray) (a b : List ByteArray) : inL s (a ++ b) = (inL s a || inL s b) := by simp [inL]
theorem miss_miss (a b c : List ByteArray) : miss (miss a b) c = miss a (b ++ c) := by
  unfold miss
  rw [List.filter_filter]
  apply List.filter_congr
  intro s _
  rw [inL_append]
  cases inL s b <;> cases inL s c <;> rfl
theorem miss_nil (a : List ByteArray) : miss a [] = a := by
  unfold miss
  exact List.filter_eq_self.2 (fun s _ => rfl)
theorem miss_self (a : List ByteArray) : miss a a = [] := by
  unfold miss
  refine List.filter_eq_nil_iff.2 (fun s hs => ?_)
  rw [inL_iff.2 hs]
  decide
theorem lst_get (n : Nat) (nm : Nat → ByteArray) (j : Nat) (h : j < n) : (lst n nm).getD j e0 = nm j := by
  simp [lst, List.getD, h]

theorem missL (a1 a2 : Option Addr) (n1 c1 n2 c2 : Nat) (m1 m2 : Nat → ByteArray) (w : World) (L : List ByteArray) (hL : miss (lst n1 m1) (lst n2 m2) = L) (h1 : n1 ≤ 1048576) (h2 : n2 ≤ 1048576) (hM1 : StrsAt w a1 n1 m1) (hM2 : StrsAt w a2 n2 m2) :
    Calls Try.prog 7 #[.slice a1 n1 c1, .slice a2 n2 c2] w fun e w' => (∃ ao cap, e = .returned (.slice ao L.length cap) ∧ StrsAt w' ao L.length fun j => L.getD j e0) ∧ Below w.heap.size w w' := by
  subst hL
  exact (missing7 a1 a2 n1 c1 n2 c2 m1 m2 w h1 h2 hM1 hM2).mono fun e w' ⟨⟨ao, cap, h, _, h'⟩, hb⟩ => ⟨⟨ao, cap, h, h'⟩, hb⟩

set_option maxRecDepth 100000 in
set_option maxHeartbeats 4000000 in
theorem walk4 (a1 a2 a3 : Option Addr) (n1 c1 n2 c2 n3 c3 : Nat) (m1 m2 m3 : Nat → ByteArray) (w : World) (h1 : n1 ≤ maxLen) (h2 : n2 ≤ maxLen) (h3 : n3 ≤ maxLen) (hM1 : StrsAt w a1 n1 m1) (hM2 : StrsAt w a2 n2 m2) (hM3 : StrsAt w a3 n3 m3)
    (hn1 : NilZ a1 n1) (hn2 : NilZ a2 n2) (hn3 : NilZ a3 n3) :
    Calls Try.prog 4 #[.slice a1 n1 c1, .slice a2 n2 c2, .slice a3 n3 c3] w fun e w' => e = .returned (.bool true) ∧ Below w.heap.size w w' := by
  obtain ⟨i0, hi, hz0, hz1, hz2⟩ := info_parts Try.info9
  have n22 := fun (w : World) a n c => run_neq_slice_nil_any (P := Try.prog) w 22 9 a n c 0 0 Try.underlying22
  go_enter Try.func4, Try.ntmps4
  go_wp2_with fail
  refine (bytes9 a1 a2 a3 n1 c1 n2 c2 n3 c3 m1 m2 m3 w h1 h2 h3 hM1 hM2 hM3).mono ?_
  rintro e w1 ⟨⟨bo, rfl⟩, rfl⟩
  cases bo with
  | false =>
    go_wp2
    go_ret
    exact ⟨rfl, Below.refl _ _⟩
  | true =>
    by_cases h41 : 4096 < n1
    · go_wp2
      go_ret
      exact ⟨rfl, Below.refl _ _⟩
    by_cases h42 : 4096 < n2
    · go_wp2
      go_ret
      exact ⟨rfl, Below.refl _ _⟩
    by_cases h43 : 4096 < n3
    · go_wp2
      go_ret
      exact ⟨rfl, Below.refl _ _⟩
    go_wp2_with fail
    refine (addBytes6 0 a1 n1 c1 m1 w1 (by omega) (by omega) h1 hM1).mono ?_
    rintro e w' ⟨⟨r, hr0, hr1, rfl⟩, rfl⟩
    go_wp2_with fail
    refine (addBytes6 r a2 n2 c2 m2 w' hr0 hr1 h2 hM2).mono ?_
    rintro e w1 ⟨⟨r2, hr20, hr21, rfl⟩, rfl⟩
    go_wp2_with fail
    refine (addBytes6 r2 a3 n3 c3 m3 w1 hr20 hr21 h3 hM3).mono ?_
    rintro e w1 ⟨⟨r3, hr30, hr31, rfl⟩, rfl⟩
    by_cases hr : 1048576 < r3
    · go_wp2
      go_ret
      exact ⟨rfl, Below.refl _ _⟩
    go_upto_if 41 with fail
    go_cut [0, 7] (fun v z wc => ∃ ao cap, v = .slice ao n1 cap ∧ NilZ ao n1 ∧ StrsAt wc ao n1 m1 ∧ Below w1.heap.size w1 wc)
    case first =>
      cases a1 with
      | none =>
        obtain rfl := hn1 rfl
        go_wp2
        go_meet
        exact ⟨none, _, rfl, fun _ => rfl, hM1, Below.refl _ _⟩
      | some ad =>
        go_wp2_with (at_make; refine wpList_make_full _ rfl _ _ 22 rfl w1.heap.size 9 i0 _ 1 Try.underlying22 hi hz0 hz1 _ _ _ _ n1 rfl rfl rfl rfl ?_ ?_ ?_ ?_)
        · rw [hz2]; omega
        · unfold maxLen; omega
        · exact Nat.le_refl _
        intro w2 hown hgr
        obtain ⟨cur, hcur, hcl⟩ := made_row hown
        have hB2 : Below w1.heap.size w1 w2 := (Below.refl _ _).grown hgr (Nat.le_refl _) (by intro k h; cases h)
        have HCUR : Hid _ := hcur
        clear hown hgr hcur
        go_wp2_with (refine wpList_copy_splice rfl _ _ 22 22 rfl 9 Try.underlying22 Try.size9 _ _ _ _ _ _ rfl rfl w1.heap.size 0 cur 9 HCUR.out ((lst n1 m1).map Value.string) ?_ ?_ ?_ (one_cells _) w1.heap.size w1 hB2 (Nat.le_refl _) ?_)
        · rw [List.length_map, lst_length]; exact (Nat.min_self _).symm
        · intro _
          exact copy_src hM1 hB2
        · rw [List.length_map, lst_length]; omega
        intro w3 HG hB3
        have hM3 := copy_done HG.out hcl hM1
        clear HG HCUR hcl hB2
        go_wp2
        go_meet
        exact ⟨_, _, rfl, (by intro e; cases e), hM3, hB3⟩
    case rest =>
      clear hM1 hn1
      obtain ⟨ao1, cp1, rfl, hno1, hS1, hB1⟩ := hcut
      obtain ⟨wA, hwA⟩ : ∃ x, x = wc := ⟨_, rfl⟩
      subst hwA
      have hM2' := hM2.of hB1
      have hM3' := hM3.of hB1
      clear hM2 hM3
      go_upto_if 50 with fail
      go_cut [1, 8] (fun v z wd => ∃ ao cap, v = .slice ao n2 cap ∧ NilZ ao n2 ∧ StrsAt wd ao n2 m2 ∧ Below wA.heap.size wA wd)
      case first =>
        cases a2 with
        | none =>
          obtain rfl := hn2 rfl
          go_wp2
          go_meet
          exact ⟨none, _, rfl, fun _ => rfl, hM2', Below.refl _ _⟩
        | some ad =>
          go_wp2_with (at_make; refine wpList_make_full _ rfl _ _ 22 rfl wA.heap.size 9 i0 _ 1 Try.underlying22 hi hz0 hz1 _ _ _ _ n2 rfl rfl rfl rfl ?_ ?_ ?_ ?_)
          · rw [hz2]; omega
          · unfold maxLen; omega
          · exact Nat.le_refl _
          intro w2 hown hgr
          obtain ⟨cur, hcur, hcl⟩ := made_row hown
          have hB2 : Below wA.heap.size wA w2 := (Below.refl _ _).grown hgr (Nat.le_refl _) (by intro k h; cases h)
          have HCUR : Hid _ := hcur
          clear hown hgr hcur
          go_wp2_with (refine wpList_copy_splice rfl _ _ 22 22 rfl 9 Try.underlying22 Try.size9 _ _ _ _ _ _ rfl rfl wA.heap.size 0 cur 9 HCUR.out ((lst n2 m2).map Value.string) ?_ ?_ ?_ (one_cells _) wA.heap.size wA hB2 (Nat.le_refl _) ?_)
          · rw [List.length_map, lst_length]; exact (Nat.min_self _).symm
          · intro _
            exact copy_src hM2' hB2
          · rw [List.length_map, lst_length]; omega
          intro w3 HG hB3
          have hM3 := copy_done HG.out hcl hM2'
          clear HG HCUR hcl hB2
          go_wp2
          go_meet
          exact ⟨_, _, rfl, (by intro e; cases e), hM3, hB3⟩
      case rest =>
        clear hM2' hn2
        obtain ⟨ao2, cp2, rfl, hno2, hS2, hB2⟩ := hcut
        obtain ⟨wB, hwB⟩ : ∃ x, x = wc := ⟨_, rfl⟩
        subst hwB
        have hS1' := hS1.of hB2
        have hM3 := hM3'.of hB2
        have hB12 := hB1.trans (hB2.mono hB1.size)
        clear hS1 hB1 hB2 hno1 hno2 hM3'
        go_upto_if 59 with fail
        go_cut [2, 9] (fun v z wd => ∃ ao cap, v = .slice ao n3 cap ∧ NilZ ao n3 ∧ StrsAt wd ao n3 m3 ∧ Below wB.heap.size wB wd)
        case first =>
          cases a3 with
          | none =>
            obtain rfl := hn3 rfl
            go_wp2
            go_meet
            exact ⟨none, _, rfl, fun _ => rfl, hM3, Below.refl _ _⟩
          | some ad =>
            go_wp2_with (at_make; refine wpList_make_full _ rfl _ _ 22 rfl wB.heap.size 9 i0 _ 1 Try.underlying22 hi hz0 hz1 _ _ _ _ n3 rfl rfl rfl rfl ?_ ?_ ?_ ?_)
            · rw [hz2]; omega
            · unfold maxLen; omega
            · exact Nat.le_refl _
            intro w2 hown hgr
            obtain ⟨cur, hcur, hcl⟩ := made_row hown
            have hB2 : Below wB.heap.size wB w2 := (Below.refl _ _).grown hgr (Nat.le_refl _) (by intro k h; cases h)
            have HCUR : Hid _ := hcur
            clear hown hgr hcur
            go_wp2_with (refine wpList_copy_splice rfl _ _ 22 22 rfl 9 Try.underlying22 Try.size9 _ _ _ _ _ _ rfl rfl wB.heap.size 0 cur 9 HCUR.out ((lst n3 m3).map Value.string) ?_ ?_ ?_ (one_cells _) wB.heap.size wB hB2 (Nat.le_refl _) ?_)
            · rw [List.length_map, lst_length]; exact (Nat.min_self _).symm
            · intro _
              exact copy_src hM3 hB2
            · rw [List.length_map, lst_length]; omega
            intro w3 HG hB3
            have hM3 := copy_done HG.out hcl hM3
            clear HG HCUR hcl hB2
            go_wp2
            go_meet
            exact ⟨_, _, rfl, (by intro e; cases e), hM3, hB3⟩
        case rest =>
          clear hM3 hn3
          obtain ⟨ao3, cp3, rfl, hno3, hS3, hB3⟩ := hcut
          obtain ⟨wC, hwC⟩ : ∃ x, x = wc := ⟨_, rfl⟩
          subst hwC
          have hS1 := hS1'.of hB3
          have hS2' := hS2.of hB3
          have hB0 := hB12.trans (hB3.mono hB12.size)
          clear hS1' hS2 hB12 hB3 hno3 n22
          have hLWs : miss (miss (lst n1 m1) (lst n2 m2)) (lst n3 m3) = miss (lst n1 m1) (lst n2 m2 ++ lst n3 m3) := miss_miss _ _ _
          have hLWj : miss (lst n1 m1) (lst (n2 + n3) (jn n2 m2 m3)) = miss (lst n1 m1) (lst n2 m2 ++ lst n3 m3) := by rw [lst_jn]
          have hL1le : (miss (lst n1 m1) (lst n2 m2)).length ≤ n1 := by have := miss_le (lst n1 m1) (lst n2 m2); rwa [lst_length] at this
          have hLWle : (miss (lst n1 m1) (lst n2 m2 ++ lst n3 m3)).length ≤ n1 := by have := miss_le (lst n1 m1) (lst n2 m2 ++ lst n3 m3); rwa [lst_length] at this
          obtain ⟨L1, hL1⟩ : ∃ L, miss (lst n1 m1) (lst n2 m2) = L := ⟨_, rfl⟩
          obtain ⟨LW, hLW⟩ : ∃ L, miss (lst n1 m1) (lst n2 m2 ++ lst n3 m3) = L := ⟨_, rfl⟩
          rw [hL1, hLW] at hLWs
          rw [hLW] at hLWj hLWle
          rw [hL1] at hL1le
          have hl1 := lst_getD L1
          have H1 : Hid _ := hL1
          have H2 : Hid _ := hLWs
          have H3 : Hid _ := hLWj
          have H4 : Hid _ := hl1
          clear hL1 hLWs hLWj hl1 hLW
          go_wp2_with fail
          refine (join10 ao2 ao3 n2 cp2 n3 cp3 m2 m3 _ (by omega) (by omega) hS2' hS3).mono ?_
          rintro e wD ⟨⟨aoJ, rfl, hJ⟩, hBD⟩
          have hJ0 := hJ
          go_wp2_with fail
          refine (missL ao1 aoJ n1 cp1 (n2 + n3) (n2 + n3) m1 (jn n2 m2 m3) wD LW H3.out (by omega) (by omega) (hS1.of hBD) hJ).mono ?_
          rintro e wE ⟨⟨aoW, cpW, rfl, hWh⟩, hBE⟩
          have hBCE := hBD.trans (hBE.mono hBD.size)
          clear hJ hJ0
          go_wp2_with fail
          refine (missL ao1 ao2 n1 cp1 n2 cp2 m1 m2 wE L1 H1.out (by omega) (by omega) (hS1.of hBCE) (hS2'.of hBCE)).mono ?_
          rintro e wF ⟨⟨aoT, cpT, rfl, hT⟩, hBF⟩
          have hBCF := hBCE.trans (hBF.mono hBCE.size)
          have hWh2 := hWh.of hBF
          clear hWh
          go_wp2_with fail
          refine (missL aoT ao3 L1.length cpT n3 cp3 (fun j => L1.getD j e0) m3 wF LW (by rw [H4.out]; exact H2.out) (by omega) (by omega) hT (hS3.of hBCF)).mono ?_
          rintro e wG ⟨⟨aoS, cpS, rfl, hSt⟩, hBG⟩
          have hBCG := hBCF.trans (hBG.mono hBCF.size)
          have hWh3 := hWh2.of hBG
          clear hWh2 hT
          go_wp2_with fail
          refine (missL ao1 none n1 cp1 0 0 m1 m1 wG (lst n1 m1) (miss_nil _) (by omega) (by omega) (hS1.of hBCG) (fun k hk => absurd hk (by omega))).mono ?_
          rintro e wH ⟨⟨aoN, cpN, rfl, hNn⟩, hBH⟩
          have hBCH := hBCG.trans (hBH.mono hBCG.size)
          have hWh4 := hWh3.of hBH
          have hSt2 := hSt.of hBH
          rw [lst_length] at hNn ⊢
          clear hWh3 hSt
          go_wp2_with fail
          refine (missL ao1 ao1 n1 cp1 n1 cp1 m1 m1 wH [] (miss_self _) (by omega) (by omega) (hS1.of hBCH) (hS1.of hBCH)).mono ?_
          rintro e wI ⟨⟨aoX, cpX, rfl, hX⟩, hBI⟩
          have hBCI := hBCH.trans (hBI.mono hBCH.size)
          have hWh5 := hWh4.of hBI
          have hSt3 := hSt2.of hBI
          have hNn2 := hNn.of hBI
          have hS1n := hS1.of hBCI
          have hBfin := hB0.trans (hBCI.mono hB0.size)
          clear hWh4 hSt2 hNn hX hS1 hS2' hS3 hB0 hBD hBE hBF hBG hBH hBI hBCE hBCF hBCG hBCH
          go_wp2_with fail
          refine (same11 aoW aoS LW.length cpW cpS _ _ wI (by unfold maxLen; omega) hWh5 hSt3 (fun j _ => rfl)).mono ?_
          rintro e wJ ⟨rfl, q, rfl⟩
          go_wp2_with fail
          refine (same11 aoN ao1 n1 cpN cp1 _ _ (wI.drewN q) (by unfold maxLen; omega) (hNn2.drewN q) (hS1n.drewN q) (fun j hj => lst_get n1 m1 j hj)).mono ?_
          rintro e wK ⟨rfl, q2, rfl⟩
          go_wp2
          go_ret
          exact ⟨rfl, below_drewN' hBfin _⟩
end Go.Proofs.Qxb6627675a
