import Derived.Test.Qxb6627675aMissing
import Derived.Laws.CopyOwn
import Derived.Deep.DeepCutAuto
namespace Go.Proofs.Qxb6627675a
open Go.RowKit Go.WideMaps Go.Maps
set_option linter.unusedSimpArgs false

theorem cells_of_lst (n : Nat) (nm : Nat → ByteArray) (j : Nat) (v : Value) (h : ((lst n nm).map Value.string)[j]? = some v) : j < n ∧ v = .string (nm j) := by
  rw [List.getElem?_map] at h
  unfold lst at h
  by_cases hj : j < n
  · rw [List.getElem?_map, List.getElem?_range hj] at h
    simp at h
    exact ⟨hj, h.symm⟩
  · rw [List.getElem?_eq_none (by simp; omega)] at h
    simp at h

theorem Try.size9 : (Try.prog.info? 9).map (·.size) = some 1 := by kernel_rfl

theorem splice_all {cur cs : List Value} (h : cur.length = cs.length) : splice cur 0 cs = cs := by
  unfold splice
  rw [List.take_zero, List.nil_append, Nat.zero_add, List.drop_of_length_le (by omega), List.append_nil]

/-- What 'make' has laid: the row, whole. -/
theorem made_row {w : World} {base g n : Nat} {xs : List Value} (h : w.ownsRow base 9 1 (.slice (some ⟨g, 0, none⟩) n n) n xs) : ∃ cur : List Value, w.heap[g]? = some (.cells cur.toArray 9 (0, 0)) ∧ cur.length = n := by
  obtain ⟨_, ⟨h1, _⟩ | ⟨g', c', cur, h1, _, h2, _, _, h3, _⟩⟩ := h
  · cases h1
  · injection h1 with h1 h4 h5
    injection h1 with h1
    injection h1 with h1
    subst h1
    subst h5
    exact ⟨cur.toList, by simpa using h2, by simpa using h3⟩

theorem copy_src {w w2 : World} {ad : Addr} {n : Nat} {nm : Nat → ByteArray} (h : StrsAt w (some ad) n nm) (hb : Below w.heap.size w w2) :
    ∀ j (a : ByteArray), (lst n nm)[j]? = some a → w2.cell? (ad.add j) = some (.string a) := by
  intro j a hv
  obtain ⟨hj, e⟩ := cells_of_lst n nm j (.string a) (by rw [List.getElem?_map, hv]; rfl)
  injection e with e
  subst e
  obtain ⟨b, off, e, c0, _, hl⟩ := h j hj
  injection e with e
  subst e
  have ea : (⟨b, off, none⟩ : Addr).add j = ⟨b, off + j, none⟩ := by unfold Addr.add; split <;> simp_all
  rw [ea]
  exact (hb.cell (p := ⟨b, off + j, none⟩) hl).trans c0

theorem copy_done {w w0 : World} {ao : Option Addr} {g n : Nat} {nm : Nat → ByteArray} {cur : List Value} (h : w.heap[g]? = some (.cells (splice cur 0 ((lst n nm).map Value.string)).toArray 9 (0, 0))) (hc : cur.length = n)
    (h0 : StrsAt w0 ao n nm) : StrsAt w (some ⟨g, 0, none⟩) n nm := by
  rw [splice_all (by rw [hc, List.length_map, lst_length])] at h
  intro k hk
  obtain ⟨_, _, _, _, z, _⟩ := h0 k hk
  refine ⟨g, 0, rfl, ?_, z, (Array.getElem?_eq_some_iff.1 h).1⟩
  rw [Nat.zero_add]
  simp only [World.cell?, h]
  simp [lst, hk]

theorem below_drewN' {B : Nat} {w w' : World} (h : Below B w w') (n : Nat) : Below B w (w'.drewN n) := ⟨h.os, h.tape, h.output, h.size, h.block⟩
theorem StrsAt.drewN {w : World} {ao : Option Addr} {len : Nat} {nm : Nat → ByteArray} (h : StrsAt w ao len nm) (n : Nat) : StrsAt (w.drewN n) ao len nm := h

theorem lst_split (n i : Nat) (nm : Nat → ByteArray) (h : i < n) : ∃ r, lst n nm = lst i nm ++ nm i :: r := by
  induction n with
  | zero => exact absurd h (by omega)
  | succ n ih =>
    rw [lst_succ]
    by_cases e : i = n
    · subst e; exact ⟨[], rfl⟩
    · obtain ⟨r, hr⟩ := ih (by omega)
      exact ⟨r ++ [nm n], by rw [hr]; simp⟩

theorem miss_at {n i : Nat} {nm : Nat → ByteArray} {hs : List ByteArray} (hi : i < n) (hx : inL (nm i) hs = false) :
    (miss (lst i nm) hs).length < (miss (lst n nm) hs).length ∧ (miss (lst n nm) hs).getD (miss (lst i nm) hs).length e0 = nm i := by
  obtain ⟨r, hr⟩ := lst_split n i nm hi
  have e : miss (lst n nm) hs = miss (lst i nm) hs ++ nm i :: miss r hs := by
    rw [hr]
    simp [miss, hx]
  rw [e]
  exact ⟨by simp, by simp [List.getD]⟩

/-- A nil slice has no element. -/
def NilZ (ao : Option Addr) (n : Nat) : Prop := ao = none → n = 0

theorem one_cells (l : List ByteArray) : ∀ v ∈ l.map Value.string, v.oneCell' = true := by
  intro v hv
  obtain ⟨s, _, rfl⟩ := List.mem_map.1 hv
  rfl

set_option maxRecDepth 100000 in
set_option maxHeartbeats 2000000 in
theorem walk3 (a1 a2 : Option Addr) (n1 c1 n2 c2 : Nat) (m1 m2 : Nat → ByteArray) (w : World) (h1 : n1 ≤ maxLen) (h2 : n2 ≤ maxLen) (hM1 : StrsAt w a1 n1 m1) (hM2 : StrsAt w a2 n2 m2)
    (hn1 : NilZ a1 n1) (hn2 : NilZ a2 n2) :
    Calls Try.prog 3 #[.slice a1 n1 c1, .slice a2 n2 c2] w fun e w' => e = .returned (.bool true) ∧ Below w.heap.size w w' := by
  obtain ⟨i0, hi, hz0, hz1, hz2⟩ := info_parts Try.info9
  have n22 := fun (w : World) a n c => run_neq_slice_nil_any (P := Try.prog) w 22 9 a n c 0 0 Try.underlying22
  go_enter Try.func3, Try.ntmps3
  go_wp2_with fail
  refine (bytes5 a1 a2 n1 c1 n2 c2 m1 m2 w h1 h2 hM1 hM2).mono ?_
  rintro e w1 ⟨⟨bo, rfl⟩, rfl⟩
  cases bo with
  | false =>
    go_wp2
    go_ret
    exact ⟨rfl, Below.refl _ _⟩
  | true =>
    by_cases h41 : 4096 < n1
    · go_wp2
      go_ret
      exact ⟨rfl, Below.refl _ _⟩
    by_cases h42 : 4096 < n2
    · go_wp2
      go_ret
      exact ⟨rfl, Below.refl _ _⟩
    go_wp2_with fail
    refine (addBytes6 0 a1 n1 c1 m1 w1 (by omega) (by omega) h1 hM1).mono ?_
    rintro e w' ⟨⟨r, hr0, hr1, rfl⟩, rfl⟩
    go_wp2_with fail
    refine (addBytes6 r a2 n2 c2 m2 w' hr0 hr1 h2 hM2).mono ?_
    rintro e w1 ⟨⟨r2, hr20, hr21, rfl⟩, rfl⟩
    by_cases hr : 1048576 < r2
    · go_wp2
      go_ret
      exact ⟨rfl, Below.refl _ _⟩
    go_upto_if 28 with fail
    go_cut [0, 5] (fun v z wc => ∃ ao cap, v = .slice ao n1 cap ∧ NilZ ao n1 ∧ StrsAt wc ao n1 m1 ∧ Below w1.heap.size w1 wc)
    case first =>
      cases a1 with
      | none =>
        obtain rfl := hn1 rfl
        go_wp2
        go_meet
        exact ⟨none, _, rfl, fun _ => rfl, hM1, Below.refl _ _⟩
      | some ad =>
        go_wp2_with (at_make; refine wpList_make_full _ rfl _ _ 22 rfl w1.heap.size 9 i0 _ 1 Try.underlying22 hi hz0 hz1 _ _ _ _ n1 rfl rfl rfl rfl ?_ ?_ ?_ ?_)
        · rw [hz2]; omega
        · unfold maxLen; omega
        · exact Nat.le_refl _
        intro w2 hown hgr
        obtain ⟨cur, hcur, hcl⟩ := made_row hown
        have hB2 : Below w1.heap.size w1 w2 := (Below.refl _ _).grown hgr (Nat.le_refl _) (by intro k h; cases h)
        have HCUR : Hid _ := hcur
        clear hown hgr hcur
        go_wp2_with (refine wpList_copy_splice rfl _ _ 22 22 rfl 9 Try.underlying22 Try.size9 _ _ _ _ _ _ rfl rfl w1.heap.size 0 cur 9 HCUR.out ((lst n1 m1).map Value.string) ?_ ?_ ?_ (one_cells _) w1.heap.size w1 hB2 (Nat.le_refl _) ?_)
        · rw [List.length_map, lst_length]; exact (Nat.min_self _).symm
        · intro _
          exact copy_src hM1 hB2
        · rw [List.length_map, lst_length]; omega
        intro w3 HG hB3
        have hM3 := copy_done HG.out hcl hM1
        clear HG HCUR hcl hB2
        go_wp2
        go_meet
        exact ⟨_, _, rfl, (by intro e; cases e), hM3, hB3⟩
    case rest =>
      clear hM1 hn1
      obtain ⟨ao1, cp1, rfl, hno1, hS1, hB1⟩ := hcut
      obtain ⟨wA, hwA⟩ : ∃ x, x = wc := ⟨_, rfl⟩
      subst hwA
      have hM2' := hM2.of hB1
      go_upto_if 37 with fail
      go_cut [1, 6] (fun v z wd => ∃ ao cap, v = .slice ao n2 cap ∧ NilZ ao n2 ∧ StrsAt wd ao n2 m2 ∧ Below wA.heap.size wA wd)
      case first =>
        cases a2 with
        | none =>
          obtain rfl := hn2 rfl
          go_wp2
          go_meet
          exact ⟨none, _, rfl, fun _ => rfl, hM2', Below.refl _ _⟩
        | some ad =>
          go_wp2_with (at_make; refine wpList_make_full _ rfl _ _ 22 rfl wA.heap.size 9 i0 _ 1 Try.underlying22 hi hz0 hz1 _ _ _ _ n2 rfl rfl rfl rfl ?_ ?_ ?_ ?_)
          · rw [hz2]; omega
          · unfold maxLen; omega
          · exact Nat.le_refl _
          intro w2 hown hgr
          obtain ⟨cur, hcur, hcl⟩ := made_row hown
          have hB2 : Below wA.heap.size wA w2 := (Below.refl _ _).grown hgr (Nat.le_refl _) (by intro k h; cases h)
          have HCUR : Hid _ := hcur
          clear hown hgr hcur
          go_wp2_with (refine wpList_copy_splice rfl _ _ 22 22 rfl 9 Try.underlying22 Try.size9 _ _ _ _ _ _ rfl rfl wA.heap.size 0 cur 9 HCUR.out ((lst n2 m2).map Value.string) ?_ ?_ ?_ (one_cells _) wA.heap.size wA hB2 (Nat.le_refl _) ?_)
          · rw [List.length_map, lst_length]; exact (Nat.min_self _).symm
          · intro _
            exact copy_src hM2' hB2
          · rw [List.length_map, lst_length]; omega
          intro w3 HG hB3
          have hM3 := copy_done HG.out hcl hM2'
          clear HG HCUR hcl hB2
          go_wp2
          go_meet
          exact ⟨_, _, rfl, (by intro e; cases e), hM3, hB3⟩
      case rest =>
        clear hM2 hM2' hn2
        obtain ⟨ao2, cp2, rfl, hno2, hS2, hB2⟩ := hcut
        obtain ⟨wB, hwB⟩ : ∃ x, x = wc := ⟨_, rfl⟩
        subst hwB
        have hS1' := hS1.of hB2
        have hB12 := hB1.trans (hB2.mono hB1.size)
        clear hS1 hB1 hB2 hno1 hno2 n22
        go_wp2_with fail
        refine (missing7 ao1 ao2 n1 cp1 n2 cp2 m1 m2 _ (by omega) (by omega) hS1' hS2).mono ?_
        rintro e w5 ⟨⟨ao5, cp5, rfl, hno5, hG⟩, hB5⟩
        have hS1 := hS1'.of hB5
        have hS2' := hS2.of hB5
        have hB05 := hB12.trans (hB5.mono hB12.size)
        have HAT : Hid (∀ i, i < n1 → inL (m1 i) (lst n2 m2) = false → (miss (lst i m1) (lst n2 m2)).length < (miss (lst n1 m1) (lst n2 m2)).length ∧ (miss (lst n1 m1) (lst n2 m2)).getD (miss (lst i m1) (lst n2 m2)).length e0 = m1 i) := fun i hi hx => miss_at hi hx
        have HML : Hid (∀ i, (miss (lst i m1) (lst n2 m2)).length ≤ i) := fun i => by have := miss_le (lst i m1) (lst n2 m2); rwa [lst_length] at this
        have HEND : Hid _ := HML.out n1
        have hends : (miss (lst n1 m1) (lst n2 m2)).length = (miss (lst n1 m1) (lst n2 m2)).length := rfl
        obtain ⟨GL, hGL⟩ : ∃ GL, GL = miss (lst n1 m1) (lst n2 m2) := ⟨_, rfl⟩
        rw [← hGL] at hG HAT HEND hno5 ⊢
        have HGL : Hid _ := hGL
        clear hGL hends hS1' hS2 hB5 hB12 hno5
        have hgle := HEND.out
        clear HEND
        go_wp2_with fail
        go_loopw [8, 9] (fun kk i wr => ∃ i3 q : Nat, i3 ≤ n1 ∧ i = .int .i64 i3 ∧ kk = .int .i64 (miss (lst i3 m1) (lst n2 m2)).length ∧ wr = w5.drewN q) (fun _ i _ => n1 - (intOf i).toNat)
        case atStart => exact ⟨0, 0, by omega, rfl, rfl, rfl⟩
        case round =>
          obtain ⟨i3, q, hi3, rfl, rfl, rfl⟩ := hrel
          by_cases hlt : i3 < n1
          · obtain ⟨b, off, rfl, cc, z0, hbl⟩ := hS1 i3 hlt
            have hml := HML.out i3
            have hls := lst_succ i3 m1
            have hat := HAT.out i3 hlt
            clear HML HAT HGL
            cases hbq : inL (m1 i3) (lst n2 m2) with
            | true =>
              have HE : Hid ((miss (lst (i3 + 1) m1) (lst n2 m2)).length = (miss (lst i3 m1) (lst n2 m2)).length) := by rw [hls, miss_snoc_no hbq]; rfl
              have hho := holds8 ao2 n2 cp2 m2 (m1 i3) (w5.drewN q) (by unfold maxLen; omega) (hS2'.drewN q)
              rw [hbq] at hho
              have HHO : Hid _ := hho
              clear hls hat hbq hho
              generalize (miss (lst i3 m1) (lst n2 m2)).length = kk at hml HE ⊢
              go_wp2_with fail
              refine Calls.mono HHO.out ?_
              rintro e w6 ⟨rfl, rfl⟩
              go_wp2
              go_roundw
              case rel => exact ⟨i3 + 1, _, by omega, by go_num, by rw [HE.out], rfl⟩
              case measure => simp [intOf]; omega
            | false =>
              have HE : Hid ((miss (lst (i3 + 1) m1) (lst n2 m2)).length = (miss (lst i3 m1) (lst n2 m2)).length + 1) := by rw [hls, miss_snoc_yes hbq]; exact List.length_append
              have hho := holds8 ao2 n2 cp2 m2 (m1 i3) (w5.drewN q) (by unfold maxLen; omega) (hS2'.drewN q)
              rw [hbq] at hho
              have HHO : Hid _ := hho
              obtain ⟨hk1, hk2⟩ := hat hbq
              clear hls hat hbq hho
              generalize (miss (lst i3 m1) (lst n2 m2)).length = kk at hml HE hk1 hk2 ⊢
              obtain ⟨bg, og, rfl, cg, zg, _⟩ := hG kk hk1
              simp only [hk2] at cg
              clear hk2 zg hG
              have hge : decide ((GL.length : Int) ≤ (kk : Int)) = false := decide_eq_false (by omega)
              have hge2 : (kk : Int) < (GL.length : Int) := by omega
              go_wp2_with fail
              refine Calls.mono HHO.out ?_
              rintro e w6 ⟨rfl, rfl⟩
              go_wp2_with fail
              go_quiet (fail)
              go_wp2
              go_roundw
              case rel => exact ⟨i3 + 1, _, by omega, by go_num, by rw [HE.out]; go_num, rfl⟩
              case measure => simp [intOf]; omega
          · obtain rfl : i3 = n1 := by omega
            rw [← HGL.out]
            clear HGL HAT HML hS1 hS2' hG
            go_wp2
            go_ret
            exact ⟨rfl, below_drewN' hB05 _⟩
end Go.Proofs.Qxb6627675a
