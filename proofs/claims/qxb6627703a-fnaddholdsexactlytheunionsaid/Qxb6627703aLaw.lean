import Derived.Test.Qxb6627703aLawS
namespace Go.Proofs.Qxb6627703a
open Go.RowKit Go.WideMaps Go.Maps
set_option linter.unusedSimpArgs false

theorem news9 (W : World) (x y z : C3) (T : TypeId) : ∀ j u, (encC x ++ encC y ++ encC z)[j]? = some u →
    (W.alloc (.cells #[.int .i64 x.1, .int .u64 x.2.1, .int .u16 x.2.2, .int .i64 y.1, .int .u64 y.2.1, .int .u16 y.2.2, .int .i64 z.1, .int .u64 z.2.1, .int .u16 z.2.2] T)).cell? ((⟨W.heap.size, 0, none⟩ : Addr).add j) = some u := by
  intro j u h
  have ea : (⟨W.heap.size, 0, none⟩ : Addr).add j = ⟨W.heap.size, j, none⟩ := by
    unfold Addr.add
    split <;> simp_all
  rw [ea]
  refine (At.box0 W _ T).2 j u ?_
  rw [← h]
  show (encC x ++ encC y ++ encC z).toArray[j]? = _
  rw [List.getElem?_toArray]
theorem one9 (l : List C3) : ∀ u ∈ l.flatMap encC, u.oneCell' = true := by
  intro u hu
  rw [List.mem_flatMap] at hu
  obtain ⟨x, _, hu⟩ := hu
  simp [encC] at hu
  rcases hu with rfl | rfl | rfl <;> rfl

/-- Where the law stands behind its preparations. -/
structure Pre (w : World) (mv : Value) (r : R6) (V : Nat → List R6) (w1 : World) : Prop where
  inm : InMap w1 mv V
  vec : Vec w1 (w.heap.size + 1 + 1) 65536 V
  box : At w1 w.heap.size (cells6 r)
  below : Below w.heap.size w w1

theorem Pre.below' {w : World} {mv : Value} {r : R6} {V : Nat → List R6} {w1 w2 : World} (h : Pre w mv r V w1) (hb : Below w1.heap.size w1 w2) : Pre w mv r V w2 :=
  ⟨h.inm.below hb, h.vec.below hb, ⟨Nat.lt_of_lt_of_le h.box.1 hb.size, fun k v hv => (hb.cell (p := ⟨w.heap.size, k, none⟩) h.box.1).trans (h.box.2 k v hv)⟩, h.below.trans (hb.mono h.below.size)⟩

set_option maxRecDepth 100000 in
set_option maxHeartbeats 8000000 in
theorem law3 (mv : Value) (V : Nat → List R6) (r : R6) (c : C3) (w : World) (hM : InMap w mv V) (hc : Rg c) (hr1 : Rg r.1) (hr2 : Rg r.2) :
    Calls Try.prog 3 #[mv, vR r, vC c] w fun e w' => e = .returned (.bool true) ∧ Below w.heap.size w w' := by
  obtain ⟨i0, hi, hz0, hz1, hz2⟩ := info_parts Try.info26
  obtain ⟨x, hx6, hx⟩ : ∃ x : Nat, x < 65536 ∧ (x : Int) = r.2.2.2 := ⟨r.2.2.2.toNat, by have := hr2.1; have := hr2.2; omega, by have := hr2.1; omega⟩
  have HM : Hid (InMap w mv V) := hM
  have HRg : Hid (Rg c ∧ Rg r.1 ∧ Rg r.2) := ⟨hc, hr1, hr2⟩
  have HX : Hid (x < 65536 ∧ (x : Int) = r.2.2.2) := ⟨hx6, hx⟩
  have HR : Hid (vR r = .agg (cells6 r)) := rfl
  have HC : Hid (vC c = .agg (cells3 c)) := rfl
  rw [HR.out, HC.out]
  have hb0 : Below w.heap.size w ((w.alloc (.cells (cells6 r) 28)).alloc (.cells (cells3 c) 26)) := (((Grew.refl w).alloc _).alloc _).below
  have hM0 := hM.below hb0
  have kB := tooBig4 mv V _ hM0
  have HB : Hid (At ((w.alloc (.cells (cells6 r) 28)).alloc (.cells (cells3 c) 26)) w.heap.size (cells6 r) ∧ At ((w.alloc (.cells (cells6 r) 28)).alloc (.cells (cells3 c) 26)) (w.heap.size + 1) (cells3 c)) := ⟨At.box1 .., At.box2 ..⟩
  have HM0 : Hid (InMap ((w.alloc (.cells (cells6 r) 28)).alloc (.cells (cells3 c) 26)) mv V) := hM0
  clear hM hc hr1 hr2 hM0 hx hx6
  obtain ⟨⟨a1, a2, a3⟩, ⟨t1, t2, t3⟩⟩ := r
  obtain ⟨e1, e2, e3⟩ := c
  unfold cells6 cells3 at *
  dsimp only at *
  go_enter Try.func3, Try.ntmps3
  go_upto_if 22 with (go_at_call 4; refine kB.mono ?_; rintro e w' ⟨⟨b, rfl, hb⟩, rfl⟩)
  cases b with
  | true =>
    clear hb
    go_wp2
    go_ret
    exact ⟨rfl, hb0⟩
  | false =>
    have HS : Hid (SmallV V) := hb rfl
    clear hb kB
    have kV := vector5 mv V _ HM0.out HS.out
    go_upto_region 4 with (go_at_call 5; refine kV.mono ?_; rintro e w1 ⟨rfl, hV1, hB1⟩)
    have hP : Pre w mv ((a1, a2, a3), (t1, t2, t3)) V w1 := ⟨HM0.out.below hB1, by simpa using hV1, ⟨Nat.lt_of_lt_of_le HB.out.1.1 hB1.size, fun k v hv => (hB1.cell (p := ⟨w.heap.size, k, none⟩) HB.out.1.1).trans (HB.out.1.2 k v hv)⟩, hb0.trans (hB1.mono hb0.size)⟩
    obtain ⟨d0, d1, d2, d3, d4, d5⟩ := hP.box.six
    have hc3 : At w1 (w.heap.size + 1) #[.int .i64 e1, .int .u64 e2, .int .u16 e3] := ⟨Nat.lt_of_lt_of_le HB.out.2.1 hB1.size, fun k v hv => (hB1.cell (p := ⟨w.heap.size + 1, k, none⟩) HB.out.2.1).trans (HB.out.2.2 k v hv)⟩
    obtain ⟨f0, f1, f2⟩ := hc3.three
    have HP : Hid (Pre w mv ((a1, a2, a3), (t1, t2, t3)) V w1) := hP
    obtain ⟨ok, ⟨ao, len, cap⟩, hI⟩ := hP.inm x HX.out.1
    have hl := hI.look w1 (Below.refl _ _)
    have hlen := hI.len
    have HI : Hid (InAt w1 mv x ok (ao, len, cap) (V x)) := hI
    have HL : Hid (len = (V x).length) := hlen
    have hl20 : len ≤ 1048576 := by dsimp only at hlen; rw [hlen]; exact HS.out x HX.out.1
    rw [HX.out.2] at hl
    unfold vS at hl
    dsimp only at hl
    clear hI hlen hP kV hV1 hB1 HB HM0 hb0
    go_wp2_with (at_make; refine wpList_make_own _ rfl _ _ 34 rfl w1.heap.size 26 i0 _ 3 Try.underlying34 hi hz0 hz1 _ _ _ (3 + 2 * len) rfl rfl ?hC ?b2 ?b3 ?b4 ?_)
    · omega
    · unfold maxLen; omega
    intro w2 hown2 hgr2
    have hB2 : Below w1.heap.size w1 w2 := (Below.refl _ _).grown hgr2 (Nat.le_refl _) (by intro k h; cases h)
    have hP2 := HP.out.below' hB2
    have HC1 : Hid (At w2 (w.heap.size + 1) #[.int .i64 e1, .int .u64 e2, .int .u16 e3]) := ⟨Nat.lt_of_lt_of_le hc3.1 hB2.size, fun k v hv => (hB2.cell (p := ⟨w.heap.size + 1, k, none⟩) hc3.1).trans (hc3.2 k v hv)⟩
    clear hl hgr2 hc3 d0 d1 d2 d3 d4 d5 f0 f1 f2
    obtain ⟨d0, d1, d2, d3, d4, d5⟩ := hP2.box.six
    obtain ⟨f0, f1, f2⟩ := HC1.out.three
    go_wp2_with (at_builtin; refine wpList_append_own _ rfl _ _ 34 rfl w1.heap.size 26 i0 _ 3 24 Try.underlying34 hi hz0 hz1 hz2 rfl (by decide) _ _ _ rfl (hown2.alloc _) ⟨w2.heap.size, 0, none⟩ 3 3 (encC (e1, e2, e3) ++ encC (t1, t2, t3) ++ encC (a1, a2, a3)) rfl rfl (news9 w2 _ _ _ _) (one9 [(e1, e2, e3), (t1, t2, t3), (a1, a2, a3)]) (by unfold maxLen; omega) (by omega) (by have := hB2.size; simp; omega) ?_)
    intro v3 w3 hown3 hgr3 _
    have hB3 : Below w1.heap.size w1 w3 := ((hB2.alloc hB2.size _)).grown hgr3 (by have := hB2.size; simp; omega) (fun j hj => (hown2.lt j hj).1)
    have hown3' : w3.ownsRow w1.heap.size 26 3 v3 (3 + 2 * 0) ((prs (e1, e2, e3) ((a1, a2, a3), (t1, t2, t3)) ((V x).take 0)).flatMap encC) := hown3
    clear hown3 hgr3 hown2 hB2 hP2 HC1 d0 d1 d2 d3 d4 d5 f0 f1 f2
    go_wp2
    go_loopw [10, 11] (fun v i wr => ∃ k : Nat, k ≤ len ∧ i = .int .i64 k ∧ wr.ownsRow w1.heap.size 26 3 v (3 + 2 * k) ((prs (e1, e2, e3) ((a1, a2, a3), (t1, t2, t3)) ((V x).take k)).flatMap encC) ∧ Below w1.heap.size w1 wr) (fun _ i _ => len - (intOf i).toNat)
    case atStart => exact ⟨0, by omega, rfl, hown3', hB3⟩
    case round =>
      clear hown3' hB3
      obtain ⟨k, hk, rfl, hown, hB⟩ := hrel
      by_cases hlt : k < len
      · obtain ⟨b, off, rfl, hbl, c0', c1', c2', c3', c4', c5'⟩ := HI.out.runs k (by have := HL.out; omega)
        have c0 := (hB.cell (p := ⟨b, off + k * 6, none⟩) hbl).trans c0'
        have c1 := (hB.cell (p := ⟨b, off + k * 6 + 1, none⟩) hbl).trans c1'
        have c2 := (hB.cell (p := ⟨b, off + k * 6 + 2, none⟩) hbl).trans c2'
        have c3 := (hB.cell (p := ⟨b, off + k * 6 + 3, none⟩) hbl).trans c3'
        have c4 := (hB.cell (p := ⟨b, off + k * 6 + 4, none⟩) hbl).trans c4'
        have c5 := (hB.cell (p := ⟨b, off + k * 6 + 5, none⟩) hbl).trans c5'
        have HN : Hid (prs (e1, e2, e3) ((a1, a2, a3), (t1, t2, t3)) ((V x).take (k + 1)) = prs (e1, e2, e3) ((a1, a2, a3), (t1, t2, t3)) ((V x).take k) ++ [(fn (V x) k).1, (fn (V x) k).2]) := prs_take (by have := HL.out; omega) _ _
        have hbl2 : b < wr.heap.size := Nat.lt_of_lt_of_le hbl hB.size
        obtain ⟨h, hh⟩ : ∃ h, h = fn (V x) k := ⟨_, rfl⟩
        rw [← hh] at c0 c1 c2 c3 c4 c5 HN
        clear c0' c1' c2' c3' c4' c5' hh
        obtain ⟨⟨h1, h2, h3⟩, ⟨g1, g2, g3⟩⟩ := h
        dsimp only at c0 c1 c2 c3 c4 c5 HN
        have hi0' : (0 : Int) ≤ (k : Int) := Int.natCast_nonneg _
        have hi1' : (k : Int) < (len : Int) := by omega
        go_upto_region 11 with fail
        have ag : Value.ownBlock u10 ≠ some b := fun q => by have := (hown.lt b q).1; omega
        go_region_held3 (fun w' => w'.cell? ⟨b, off + k * 6, none⟩ = some (.int .i64 h1) ∧ w'.cell? ⟨b, off + k * 6 + 1, none⟩ = some (.int .u64 h2) ∧ w'.cell? ⟨b, off + k * 6 + 2, none⟩ = some (.int .u16 h3) ∧ w'.cell? ⟨b, off + k * 6 + 3, none⟩ = some (.int .i64 g1) ∧ w'.cell? ⟨b, off + k * 6 + 4, none⟩ = some (.int .u64 g2) ∧ w'.cell? ⟨b, off + k * 6 + 5, none⟩ = some (.int .u16 g3))
          (first
            | go_keep
            | (go_split_ands
               refine ⟨?_, ?_, ?_, ?_, ?_, ?_⟩
               · (rw [hgrow.cell_far _ (by simp; omega) (Ne.symm ag)]; assumption)
               · (rw [hgrow.cell_far _ (by simp; omega) (Ne.symm ag)]; assumption)
               · (rw [hgrow.cell_far _ (by simp; omega) (Ne.symm ag)]; assumption)
               · (rw [hgrow.cell_far _ (by simp; omega) (Ne.symm ag)]; assumption)
               · (rw [hgrow.cell_far _ (by simp; omega) (Ne.symm ag)]; assumption)
               · (rw [hgrow.cell_far _ (by simp; omega) (Ne.symm ag)]; assumption)))
          ((refine step_append_lies _ (by rfl) _ _ _ (by rfl) w1.heap.size 26 i0 _ 3 24 Try.underlying34 hi hz0 hz1 hz2 rfl (by omega) _ _ _ (by rfl) ((hown.alloc _).drew)
              ⟨wr.heap.size, 0, none⟩ 2 2 [.int .i64 h1, .int .u64 h2, .int .u16 h3, .int .i64 g1, .int .u64 g2, .int .u16 g3] (by rfl) (by rfl) (World.news_of_block (cs := #[.int .i64 h1, .int .u64 h2, .int .u16 h3, .int .i64 g1, .int .u64 g2, .int .u16 g3]) (t := 26) (fr := (0, 0)) (heap_alloc_new wr _)) (by simp [Value.oneCell'])
              (by omega) (by unfold maxLen; omega) (by omega) (by have := hB.size; simp; omega) (wr.heap.size + 1) (by simp) ?_; intro gg gcap w4 hown4 hgrow hat4 hlt4))
        have hB4 : Below w1.heap.size w1 w4 := ((hB.alloc hB.size _).drew).grown hgrow (by have := hB.size; simp; omega) (fun j hj => (hown.lt j hj).1)
        have hown5 : w4.ownsRow w1.heap.size 26 3 (.slice (some ⟨gg, 0, none⟩) (3 + 2 * k + 2) gcap) (3 + 2 * (k + 1)) ((prs (e1, e2, e3) ((a1, a2, a3), (t1, t2, t3)) ((V x).take (k + 1))).flatMap encC) := by
          rw [HN.out, List.flatMap_append]
          exact hown4
        clear hown4 hgrow hat4 hlt4 hown
        go_wp2
        go_roundw
        case rel => exact ⟨k + 1, by omega, by go_num, hown5, hB4⟩
        case measure => simp [intOf]; omega
      · obtain rfl : k = len := by omega
        have HPL : Hid ((prs (e1, e2, e3) ((a1, a2, a3), (t1, t2, t3)) (V x)).length = 3 + 2 * k) := by
          show _ = _
          rw [prs_length, ← HL.out]
        have hown' : wr.ownsRow w1.heap.size 26 3 u10 (prs (e1, e2, e3) ((a1, a2, a3), (t1, t2, t3)) (V x)).length ((prs (e1, e2, e3) ((a1, a2, a3), (t1, t2, t3)) (V x)).flatMap encC) := by
          have h := hown
          rw [HL.out, List.take_length] at h
          rw [prs_length]
          exact h
        have HRP : Hid (∀ p ∈ prs (e1, e2, e3) ((a1, a2, a3), (t1, t2, t3)) (V x), Rg p) := prs_rng HRg.out.1 HRg.out.2.1 HRg.out.2.2 HI.out.rng
        obtain ⟨P, hPP⟩ : ∃ P, P = prs (e1, e2, e3) ((a1, a2, a3), (t1, t2, t3)) (V x) := ⟨_, rfl⟩
        rw [← hPP] at hown' HPL HRP
        clear hPP hown
        obtain ⟨g, gcap, rfl, hgb, hgl⟩ := hown'.form (by rw [HPL.out]; omega)
        have hLS : Hid (LS wr mv (w.heap.size + 1 + 1) 65536 g V V P) := LS.ofOwns (HP.out.inm.below hB) (HP.out.vec.below hB) hown' HRP.out
        have HP2 : Hid (Pre w mv ((a1, a2, a3), (t1, t2, t3)) V wr) := HP.out.below' hB
        obtain ⟨N, hN⟩ : ∃ N, N = P.length := ⟨_, rfl⟩
        have HN : Hid (N = P.length) := hN
        have hN20 : N ≤ 2097155 := by have := HPL.out; omega
        rw [← hN]
        have hgv : w.heap.size + 1 + 1 < g := Nat.lt_of_lt_of_le HP.out.vec.lt hgb
        clear hown' HPL HRP hN HP HI hB hl20 hk hlt
        obtain ⟨wo, hwo⟩ : ∃ q, q = wr := ⟨_, rfl⟩
        subst hwo
        go_wp2
        go_loopw [12] (fun i wx => ∃ j : Nat, j ≤ N ∧ i = .int .i64 j ∧ Grew wo wx) (fun i _ => N - (intOf i).toNat)
        case atStart => exact ⟨0, by omega, rfl, Grew.refl _⟩
        case round =>
          obtain ⟨j, hj, rfl, hG⟩ := hrel
          by_cases hjl : j < N
          · have hLx := hLS.out.below hG.below
            have hjP : j < P.length := by have := HN.out; omega
            obtain ⟨k2, hk6, hk2⟩ := hLx.at hjP
            obtain ⟨p0, p1, p2⟩ := hLx.prb j hjP
            obtain ⟨ok2, ⟨ao2, len2, cap2⟩, hI2⟩ := hLx.inm k2 hk6
            obtain ⟨p, hp⟩ : ∃ p, p = P.getD j q0 := ⟨_, rfl⟩
            rw [← hp] at hk2 p0 p1 p2
            have hVl : (V k2).length ≤ 1048577 := Nat.le_succ_of_le (HS.out k2 hk6)
            have hV1 : ∀ k, k < 65536 → (V k).length ≤ 1048577 := fun k hk => Nat.le_succ_of_le (HS.out k hk)
            have kT := fun W => toCSN7 p W
            have hl2 := fun W hb => hI2.look W hb
            have kH := fun W hb => held8' (W := W) hI2 hb hVl p
            unfold vC at kT kH
            unfold vS at hl2 kH
            dsimp only at hl2 kH
            cases hh : heldL (V k2) p with
            | true =>
              have kR := fun W (hb : Below wr.heap.size wr W) => run6'' (hLx.vec.below hb) hV1 p hk2 hk6 true hh
              rw [hh] at kH
              rw [hk2] at hl2
              have kI := fun y W => zzIn9 y p W
              unfold vC at kI
              clear hLx hI2 hV1 hVl hh hp hk2
              obtain ⟨p1', p2', p3'⟩ := p
              dsimp only at kT kH kR hl2 kI p0 p1 p2
              go_upto_region 19 with (first
                | (go_at_call 7; (with_reducible refine (kT _).mono ?_); rintro e w2 ⟨rfl, rfl⟩)
                | (go_at_call 6; (with_reducible refine (kR _ ((((Grew.refl _).alloc _).alloc _).alloc _).below).mono ?_); rintro e w3 ⟨⟨y1, y2, y3, y4, y5, y6, rfl, hy⟩, hG3⟩; have hGx := ((((Grew.refl wr).alloc _).alloc _).alloc _).trans hG3; have hA := (At.box0 wr #[.int .i64 p1', .int .u64 p2', .int .u16 p3'] 26).of ((((Grew.refl _).alloc _).alloc _).trans hG3); obtain ⟨z0, z1, z2⟩ := hA.three; have ca : ∀ o q, (w3.alloc o).cell? ⟨wr.heap.size, q, none⟩ = w3.cell? ⟨wr.heap.size, q, none⟩ := (fun o q => World.cell?_alloc_lt _ _ _ hA.1); have hl3 := fun o => hl2 (w3.alloc o) (hGx.alloc o).below)
                | (go_at_call 8; (with_reducible refine (kH _ (hGx.alloc _).below).mono ?_); rintro e w5 ⟨rfl, hG5⟩))
              have hA5 := (hA.of ((Grew.refl w3).alloc _)).of hG5
              have hB5 := (At.box0 w3 #[.int .i64 y1, .int .u64 y2, .int .u16 y3, .int .i64 y4, .int .u64 y5, .int .u16 y6] 39).of hG5
              obtain ⟨m0, m1, m2⟩ := hA5.three
              obtain ⟨n0, n1, n2, n3, n4, n5⟩ := hB5.six
              have s1 := hA5.1
              have s2 := hB5.1
              have kF := fun W => fromRun10 ((y1, y2, y3), (y4, y5, y6)) W
              have kI5 := fun W => kI ((y1, y2, y3), (y4, y5, y6)) W
              rw [hy.out (by trivial)] at kI5
              have HG : Hid (Grew wo w5) := (hG.trans (hGx.alloc _)).trans hG5
              unfold vR at kF kI5
              dsimp only at kF kI5
              clear kI kR kH kT hl2 hl3 hA5 hB5 hA ca z0 z1 z2 p0 p1 p2 hG5 hG3 hGx hy hG
              go_region_held3 (fun w' => wr.heap.size < w'.heap.size ∧ w3.heap.size < w'.heap.size ∧ w'.cell? ⟨wr.heap.size, 0, none⟩ = some (.int .i64 p1') ∧ w'.cell? ⟨wr.heap.size, 1, none⟩ = some (.int .u64 p2') ∧ w'.cell? ⟨wr.heap.size, 2, none⟩ = some (.int .u16 p3') ∧
                  w'.cell? ⟨w3.heap.size, 0, none⟩ = some (.int .i64 y1) ∧ w'.cell? ⟨w3.heap.size, 1, none⟩ = some (.int .u64 y2) ∧ w'.cell? ⟨w3.heap.size, 2, none⟩ = some (.int .u16 y3) ∧ w'.cell? ⟨w3.heap.size, 3, none⟩ = some (.int .i64 y4) ∧ w'.cell? ⟨w3.heap.size, 4, none⟩ = some (.int .u64 y5) ∧ w'.cell? ⟨w3.heap.size, 5, none⟩ = some (.int .u16 y6))
                (first | go_keep | (exact keep9 (by assumption) (by assumption)))
                (first
                  | (go_at_call 10; (with_reducible refine (kF _).mono ?_); rintro e w6 ⟨rfl, hG6⟩)
                  | (go_at_call 9; (with_reducible refine (kI5 _).mono ?_); rintro e w7 ⟨rfl, hG7⟩))
              all_goals
                go_wp2
                go_roundw
                case rel => exact ⟨j + 1, by omega, by go_num, ((HG.out.drew).trans hG6).trans hG7⟩
                case measure => simp [intOf]; omega
            | false =>
              have kR := fun W (hb : Below wr.heap.size wr W) => run6'' (hLx.vec.below hb) hV1 p hk2 hk6 false hh
              rw [hh] at kH
              rw [hk2] at hl2
              clear hLx hI2 hV1 hVl hh hp hk2
              obtain ⟨p1', p2', p3'⟩ := p
              dsimp only at kT kH kR hl2 p0 p1 p2
              go_upto_region 19 with (first
                | (go_at_call 7; (with_reducible refine (kT _).mono ?_); rintro e w2 ⟨rfl, rfl⟩)
                | (go_at_call 6; (with_reducible refine (kR _ ((((Grew.refl _).alloc _).alloc _).alloc _).below).mono ?_); rintro e w3 ⟨⟨y1, y2, y3, y4, y5, y6, rfl, hy⟩, hG3⟩; have hGx := ((((Grew.refl wr).alloc _).alloc _).alloc _).trans hG3; have hA := (At.box0 wr #[.int .i64 p1', .int .u64 p2', .int .u16 p3'] 26).of ((((Grew.refl _).alloc _).alloc _).trans hG3); obtain ⟨z0, z1, z2⟩ := hA.three; have ca : ∀ o q, (w3.alloc o).cell? ⟨wr.heap.size, q, none⟩ = w3.cell? ⟨wr.heap.size, q, none⟩ := (fun o q => World.cell?_alloc_lt _ _ _ hA.1); have hl3 := fun o => hl2 (w3.alloc o) (hGx.alloc o).below)
                | (go_at_call 8; (with_reducible refine (kH _ (hGx.alloc _).below).mono ?_); rintro e w5 ⟨rfl, hG5⟩))
              have HG : Hid (Grew wo w5) := (hG.trans (hGx.alloc _)).trans hG5
              clear kR kH kT hl2 hl3 hA ca z0 z1 z2 p0 p1 p2 hG5 hG3 hGx hy hG
              go_quiet (fail)
              go_wp2
              go_roundw
              case rel => exact ⟨j + 1, by omega, by go_num, HG.out.trans ⟨_, #[], by rw [Sort.grow_empty]⟩⟩
              case measure => simp [intOf]; omega
          · obtain rfl : j = N := by omega
            have hLx := hLS.out.below hG.below
            have hPx := HP2.out.below' hG.below
            obtain ⟨d0, d1, d2, d3, d4, d5⟩ := hPx.box.six
            have kT := fun W => toRun12 ((a1, a2, a3), (t1, t2, t3)) W
            have kA := fun W (hb : Below wr.heap.size wr W) => add11 (w.heap.size + 1 + 1) 65536 x V ((a1, a2, a3), (t1, t2, t3)) W (hLx.vec.below hb) (Nat.le_refl _) HS.out HX.out.2 HX.out.1
            unfold vR at kT kA
            dsimp only at kT kA
            have HLx : Hid (LS wr mv (w.heap.size + 1 + 1) 65536 g V V P) := hLx
            have HPx : Hid (Pre w mv ((a1, a2, a3), (t1, t2, t3)) V wr) := hPx
            clear hLx hPx hLS HP2 hj hjl hG
            go_upto_region 22 with (first
              | (go_at_call 12; (with_reducible refine (kT _).mono ?_); rintro e w8 ⟨rfl, hG8⟩)
              | (go_at_call 11; (with_reducible refine (kA _ hG8.below).mono ?_); rintro e w9 ⟨rfl, hEnd⟩))
            obtain ⟨V', hVec9, hPost, hgr9⟩ := hEnd
            have hP8 := HPx.out.below' hG8.below
            have hB9 : Below w.heap.size w w9 := hP8.below.grown hgr9 hP8.below.size (fun q hq => by cases hq; omega)
            have HL9 : Hid (LS w9 mv (w.heap.size + 1 + 1) (65536 + 1) g V V' P) := (HLx.out.below hG8.below).added (HM.out.below hB9) hVec9 hgr9 (by omega)
            have HB9 : Hid (At w9 w.heap.size #[.int .i64 a1, .int .u64 a2, .int .u16 a3, .int .i64 t1, .int .u64 t2, .int .u16 t3]) := hP8.box.added hgr9 (by omega)
            have HPo : Hid (AddPost V V' ((a1, a2, a3), (t1, t2, t3))) := hPost
            have HBw : Hid (Below w.heap.size w w9) := hB9
            clear hVec9 hPost hgr9 hP8 hB9 kA kT hG8 d0 d1 d2 d3 d4 d5 HLx HPx
            obtain ⟨wo2, hwo2⟩ : ∃ q, q = w9 := ⟨_, rfl⟩
            subst hwo2
            go_wp2
            go_loopw [16] (fun i wx => ∃ j3 : Nat, j3 ≤ j ∧ i = .int .i64 j3 ∧ Grew wo2 wx) (fun i _ => j - (intOf i).toNat)
            case atStart => exact ⟨0, by omega, rfl, Grew.refl _⟩
            case round =>
              obtain ⟨j3, hj3, rfl, hG⟩ := hrel
              by_cases hjl3 : j3 < j
              · have hLx := HL9.out.below hG.below
                have hjP : j3 < P.length := by have := HN.out; omega
                obtain ⟨k2, hk6, hk2⟩ := hLx.at hjP
                obtain ⟨p0, p1, p2⟩ := hLx.prb j3 hjP
                obtain ⟨ok2, ⟨ao2, len2, cap2⟩, hI2⟩ := hLx.inm k2 hk6
                obtain ⟨p, hp⟩ : ∃ p, p = P.getD j3 q0 := ⟨_, rfl⟩
                rw [← hp] at hk2 p0 p1 p2
                have hVl : (V k2).length ≤ 1048577 := Nat.le_succ_of_le (HS.out k2 hk6)
                have hV1 : ∀ k, k < 65536 → (V' k).length ≤ 1048577 := fun k hk => (HPo.out k hk).1
                have hPk := (HPo.out k2 hk6).2 p
                rw [hk2] at hPk
                have kT := fun W => toCSN7 p W
                have hl2 := fun W hb => hI2.look W hb
                have kH := fun W hb => held8' (W := W) hI2 hb hVl p
                have kIr := fun W => zzIn9 ((a1, a2, a3), (t1, t2, t3)) p W
                have kI := fun y W => zzIn9 y p W
                unfold vC at kT kH kI kIr
                unfold vR at kIr
                unfold vS at hl2 kH
                have hBx := HB9.out.of hG
                dsimp only at hl2 kH hPk kIr
                cases hh : heldL (V k2) p with
                | true =>
                  rw [hh, Bool.true_or] at hPk
                  have kR := fun W (hb : Below wr.heap.size wr W) => run6'' (hLx.vec.below hb) hV1 p hk2 hk6 true hPk
                  rw [hh] at kH
                  rw [hk2] at hl2
                  clear hLx hI2 hV1 hVl hh hp hk2 hPk
                  obtain ⟨p1', p2', p3'⟩ := p
                  dsimp only at kT kH kR hl2 kI kIr p0 p1 p2
                  go_upto_region 30 with (first
                    | (go_at_call 7; (with_reducible refine (kT _).mono ?_); rintro e w2 ⟨rfl, rfl⟩)
                    | (go_at_call 6; (with_reducible refine (kR _ ((((Grew.refl _).alloc _).alloc _).alloc _).below).mono ?_); rintro e w3 ⟨⟨y1, y2, y3, y4, y5, y6, rfl, hy⟩, hG3⟩; have hGx := ((((Grew.refl wr).alloc _).alloc _).alloc _).trans hG3; have hA := (At.box0 wr #[.int .i64 p1', .int .u64 p2', .int .u16 p3'] 26).of ((((Grew.refl _).alloc _).alloc _).trans hG3); obtain ⟨z0, z1, z2⟩ := hA.three; have ca : ∀ o q, (w3.alloc o).cell? ⟨wr.heap.size, q, none⟩ = w3.cell? ⟨wr.heap.size, q, none⟩ := (fun o q => World.cell?_alloc_lt _ _ _ hA.1); have hl3 := fun o => hl2 (w3.alloc o) (hGx.alloc o).below)
                    | (go_at_call 8; (with_reducible refine (kH _ (hGx.alloc _).below).mono ?_); rintro e w5 ⟨rfl, hG5⟩; have hA5 := (hA.of ((Grew.refl w3).alloc _)).of hG5; have hB5 := (At.box0 w3 #[.int .i64 y1, .int .u64 y2, .int .u16 y3, .int .i64 y4, .int .u64 y5, .int .u16 y6] 39).of hG5; obtain ⟨m0, m1, m2⟩ := hA5.three; have hBx5 := (hBx.of (hGx.alloc _)).of hG5; obtain ⟨d0, d1, d2, d3, d4, d5⟩ := hBx5.six))
                  have hG5' := hG5
                  have hA6 := hA5
                  have hB6 := hB5
                  have HG : Hid (Grew wo2 w5) := (hG.trans (hGx.alloc _)).trans hG5'
                  clear m0 m1 m2
                  obtain ⟨m0, m1, m2⟩ := hA6.three
                  obtain ⟨n0, n1, n2, n3, n4, n5⟩ := hB6.six
                  have s1 := hA6.1
                  have s2 := hB6.1
                  have kF := fun W => fromRun10 ((y1, y2, y3), (y4, y5, y6)) W
                  have kI5 := fun W => kI ((y1, y2, y3), (y4, y5, y6)) W
                  rw [hy.out (by trivial)] at kI5
                  unfold vR at kF kI5
                  dsimp only at kF kI5
                  clear kI kIr kR kH kT hl2 hl3 hA6 hB6 hA5 hB5 hA ca z0 z1 z2 p0 p1 p2 hG5' hG5 hG3 hGx hy hG hBx hBx5 d0 d1 d2 d3 d4 d5
                  go_region_held3 (fun w' => wr.heap.size < w'.heap.size ∧ w3.heap.size < w'.heap.size ∧ w'.cell? ⟨wr.heap.size, 0, none⟩ = some (.int .i64 p1') ∧ w'.cell? ⟨wr.heap.size, 1, none⟩ = some (.int .u64 p2') ∧ w'.cell? ⟨wr.heap.size, 2, none⟩ = some (.int .u16 p3') ∧
                      w'.cell? ⟨w3.heap.size, 0, none⟩ = some (.int .i64 y1) ∧ w'.cell? ⟨w3.heap.size, 1, none⟩ = some (.int .u64 y2) ∧ w'.cell? ⟨w3.heap.size, 2, none⟩ = some (.int .u16 y3) ∧ w'.cell? ⟨w3.heap.size, 3, none⟩ = some (.int .i64 y4) ∧ w'.cell? ⟨w3.heap.size, 4, none⟩ = some (.int .u64 y5) ∧ w'.cell? ⟨w3.heap.size, 5, none⟩ = some (.int .u16 y6))
                    (first | go_keep | (exact keep9 (by assumption) (by assumption)))
                    (first
                      | (go_at_call 10; (with_reducible refine (kF _).mono ?_); rintro e w10 ⟨rfl, hG10⟩)
                      | (go_at_call 9; (with_reducible refine (kI5 _).mono ?_); rintro e w11 ⟨rfl, hG11⟩))
                  all_goals
                    go_wp2
                    go_roundw
                    case rel => exact ⟨j3 + 1, by omega, by go_num, ((HG.out.drew).trans hG10).trans hG11⟩
                    case measure => simp [intOf]; omega
                | false =>
                  rw [hh, Bool.false_or] at hPk
                  by_cases h33 : p.2.2 = t3
                  · rw [decide_eq_true h33, Bool.true_and] at hPk
                    cases hin : inR ((a1, a2, a3), (t1, t2, t3)) p with
                    | true =>
                      rw [hin] at hPk kIr
                      clear hin
                      have kR := fun W (hb : Below wr.heap.size wr W) => run6'' (hLx.vec.below hb) hV1 p hk2 hk6 true hPk
                      rw [hh] at kH
                      rw [hk2] at hl2
                      clear hLx hI2 hV1 hVl hh hp hk2 hPk
                      obtain ⟨p1', p2', p3'⟩ := p
                      dsimp only at kT kH kR hl2 kI kIr p0 p1 p2
                      subst h33
                      go_upto_region 30 with (first
                        | (go_at_call 7; (with_reducible refine (kT _).mono ?_); rintro e w2 ⟨rfl, rfl⟩)
                        | (go_at_call 6; (with_reducible refine (kR _ ((((Grew.refl _).alloc _).alloc _).alloc _).below).mono ?_); rintro e w3 ⟨⟨y1, y2, y3, y4, y5, y6, rfl, hy⟩, hG3⟩; have hGx := ((((Grew.refl wr).alloc _).alloc _).alloc _).trans hG3; have hA := (At.box0 wr #[.int .i64 p1', .int .u64 p2', .int .u16 p3'] 26).of ((((Grew.refl _).alloc _).alloc _).trans hG3); obtain ⟨z0, z1, z2⟩ := hA.three; have ca : ∀ o q, (w3.alloc o).cell? ⟨wr.heap.size, q, none⟩ = w3.cell? ⟨wr.heap.size, q, none⟩ := (fun o q => World.cell?_alloc_lt _ _ _ hA.1); have hl3 := fun o => hl2 (w3.alloc o) (hGx.alloc o).below)
                        | (go_at_call 8; (with_reducible refine (kH _ (hGx.alloc _).below).mono ?_); rintro e w5 ⟨rfl, hG5⟩; have hA5 := (hA.of ((Grew.refl w3).alloc _)).of hG5; have hB5 := (At.box0 w3 #[.int .i64 y1, .int .u64 y2, .int .u16 y3, .int .i64 y4, .int .u64 y5, .int .u16 y6] 39).of hG5; obtain ⟨m0, m1, m2⟩ := hA5.three; have hBx5 := (hBx.of (hGx.alloc _)).of hG5; obtain ⟨d0, d1, d2, d3, d4, d5⟩ := hBx5.six)
                        | (go_at_call 9; (with_reducible refine (kIr _).mono ?_); rintro e w6 ⟨rfl, hG6⟩))
                      have hG5' := hG5.trans hG6
                      have hA6 := hA5.of hG6
                      have hB6 := hB5.of hG6
                      have HG : Hid (Grew wo2 w6) := (hG.trans (hGx.alloc _)).trans hG5'
                      clear m0 m1 m2
                      obtain ⟨m0, m1, m2⟩ := hA6.three
                      obtain ⟨n0, n1, n2, n3, n4, n5⟩ := hB6.six
                      have s1 := hA6.1
                      have s2 := hB6.1
                      have kF := fun W => fromRun10 ((y1, y2, y3), (y4, y5, y6)) W
                      have kI5 := fun W => kI ((y1, y2, y3), (y4, y5, y6)) W
                      rw [hy.out (by trivial)] at kI5
                      unfold vR at kF kI5
                      dsimp only at kF kI5
                      clear kI kIr kR kH kT hl2 hl3 hA6 hB6 hA5 hB5 hA ca z0 z1 z2 p0 p1 p2 hG5' hG5 hG3 hGx hy hG hBx hBx5 d0 d1 d2 d3 d4 d5 hG6
                      go_region_held3 (fun w' => wr.heap.size < w'.heap.size ∧ w3.heap.size < w'.heap.size ∧ w'.cell? ⟨wr.heap.size, 0, none⟩ = some (.int .i64 p1') ∧ w'.cell? ⟨wr.heap.size, 1, none⟩ = some (.int .u64 p2') ∧ w'.cell? ⟨wr.heap.size, 2, none⟩ = some (.int .u16 p3') ∧
                          w'.cell? ⟨w3.heap.size, 0, none⟩ = some (.int .i64 y1) ∧ w'.cell? ⟨w3.heap.size, 1, none⟩ = some (.int .u64 y2) ∧ w'.cell? ⟨w3.heap.size, 2, none⟩ = some (.int .u16 y3) ∧ w'.cell? ⟨w3.heap.size, 3, none⟩ = some (.int .i64 y4) ∧ w'.cell? ⟨w3.heap.size, 4, none⟩ = some (.int .u64 y5) ∧ w'.cell? ⟨w3.heap.size, 5, none⟩ = some (.int .u16 y6))
                        (first | go_keep | (exact keep9 (by assumption) (by assumption)))
                        (first
                          | (go_at_call 10; (with_reducible refine (kF _).mono ?_); rintro e w10 ⟨rfl, hG10⟩)
                          | (go_at_call 9; (with_reducible refine (kI5 _).mono ?_); rintro e w11 ⟨rfl, hG11⟩))
                      all_goals
                        go_wp2
                        go_roundw
                        case rel => exact ⟨j3 + 1, by omega, by go_num, ((HG.out.drew).trans hG10).trans hG11⟩
                        case measure => simp [intOf]; omega
                    | false =>
                      rw [hin] at hPk kIr
                      clear hin
                      have kR := fun W (hb : Below wr.heap.size wr W) => run6'' (hLx.vec.below hb) hV1 p hk2 hk6 false hPk
                      rw [hh] at kH
                      rw [hk2] at hl2
                      clear hLx hI2 hV1 hVl hh hp hk2 hPk
                      obtain ⟨p1', p2', p3'⟩ := p
                      dsimp only at kT kH kR hl2 kI kIr p0 p1 p2
                      subst h33
                      go_upto_region 30 with (first
                        | (go_at_call 7; (with_reducible refine (kT _).mono ?_); rintro e w2 ⟨rfl, rfl⟩)
                        | (go_at_call 6; (with_reducible refine (kR _ ((((Grew.refl _).alloc _).alloc _).alloc _).below).mono ?_); rintro e w3 ⟨⟨y1, y2, y3, y4, y5, y6, rfl, hy⟩, hG3⟩; have hGx := ((((Grew.refl wr).alloc _).alloc _).alloc _).trans hG3; have hA := (At.box0 wr #[.int .i64 p1', .int .u64 p2', .int .u16 p3'] 26).of ((((Grew.refl _).alloc _).alloc _).trans hG3); obtain ⟨z0, z1, z2⟩ := hA.three; have ca : ∀ o q, (w3.alloc o).cell? ⟨wr.heap.size, q, none⟩ = w3.cell? ⟨wr.heap.size, q, none⟩ := (fun o q => World.cell?_alloc_lt _ _ _ hA.1); have hl3 := fun o => hl2 (w3.alloc o) (hGx.alloc o).below)
                        | (go_at_call 8; (with_reducible refine (kH _ (hGx.alloc _).below).mono ?_); rintro e w5 ⟨rfl, hG5⟩; have hA5 := (hA.of ((Grew.refl w3).alloc _)).of hG5; have hB5 := (At.box0 w3 #[.int .i64 y1, .int .u64 y2, .int .u16 y3, .int .i64 y4, .int .u64 y5, .int .u16 y6] 39).of hG5; obtain ⟨m0, m1, m2⟩ := hA5.three; have hBx5 := (hBx.of (hGx.alloc _)).of hG5; obtain ⟨d0, d1, d2, d3, d4, d5⟩ := hBx5.six)
                        | (go_at_call 9; (with_reducible refine (kIr _).mono ?_); rintro e w6 ⟨rfl, hG6⟩))
                      have hG5' := hG5.trans hG6
                      have hA6 := hA5.of hG6
                      have hB6 := hB5.of hG6
                      have HG : Hid (Grew wo2 w6) := (hG.trans (hGx.alloc _)).trans hG5'
                      clear kI kIr kR kH kT hl2 hl3 hA6 hB6 hA5 hB5 hA ca z0 z1 z2 p0 p1 p2 hG5' hG5 hG3 hGx hy hG hBx hBx5 d0 d1 d2 d3 d4 d5 m0 m1 m2 hG6
                      go_quiet (fail)
                      go_wp2
                      go_roundw
                      case rel => exact ⟨j3 + 1, by omega, by go_num, HG.out.trans ⟨_, #[], by rw [Sort.grow_empty]⟩⟩
                      case measure => simp [intOf]; omega
                  · rw [decide_eq_false h33, Bool.false_and] at hPk
                    have h34 : decide (p.2.2 = t3) = false := decide_eq_false h33
                    have kR := fun W (hb : Below wr.heap.size wr W) => run6'' (hLx.vec.below hb) hV1 p hk2 hk6 false hPk
                    rw [hh] at kH
                    rw [hk2] at hl2
                    clear hLx hI2 hV1 hVl hh hp hk2 hPk
                    obtain ⟨p1', p2', p3'⟩ := p
                    dsimp only at kT kH kR hl2 kI kIr p0 p1 p2
                    dsimp only at h33 h34
                    go_upto_region 30 with (first
                      | (go_at_call 7; (with_reducible refine (kT _).mono ?_); rintro e w2 ⟨rfl, rfl⟩)
                      | (go_at_call 6; (with_reducible refine (kR _ ((((Grew.refl _).alloc _).alloc _).alloc _).below).mono ?_); rintro e w3 ⟨⟨y1, y2, y3, y4, y5, y6, rfl, hy⟩, hG3⟩; have hGx := ((((Grew.refl wr).alloc _).alloc _).alloc _).trans hG3; have hA := (At.box0 wr #[.int .i64 p1', .int .u64 p2', .int .u16 p3'] 26).of ((((Grew.refl _).alloc _).alloc _).trans hG3); obtain ⟨z0, z1, z2⟩ := hA.three; have ca : ∀ o q, (w3.alloc o).cell? ⟨wr.heap.size, q, none⟩ = w3.cell? ⟨wr.heap.size, q, none⟩ := (fun o q => World.cell?_alloc_lt _ _ _ hA.1); have hl3 := fun o => hl2 (w3.alloc o) (hGx.alloc o).below)
                      | (go_at_call 8; (with_reducible refine (kH _ (hGx.alloc _).below).mono ?_); rintro e w5 ⟨rfl, hG5⟩; have hA5 := (hA.of ((Grew.refl w3).alloc _)).of hG5; have hB5 := (At.box0 w3 #[.int .i64 y1, .int .u64 y2, .int .u16 y3, .int .i64 y4, .int .u64 y5, .int .u16 y6] 39).of hG5; obtain ⟨m0, m1, m2⟩ := hA5.three; have hBx5 := (hBx.of (hGx.alloc _)).of hG5; obtain ⟨d0, d1, d2, d3, d4, d5⟩ := hBx5.six))
                    have hG5' := hG5
                    have hA6 := hA5
                    have hB6 := hB5
                    have HG : Hid (Grew wo2 w5) := (hG.trans (hGx.alloc _)).trans hG5'
                    clear kI kIr kR kH kT hl2 hl3 hA6 hB6 hA5 hB5 hA ca z0 z1 z2 p0 p1 p2 hG5' hG5 hG3 hGx hy hG hBx hBx5 d0 d1 d2 d3 d4 d5 m0 m1 m2
                    go_quiet (fail)
                    go_wp2
                    go_roundw
                    case rel => exact ⟨j3 + 1, by omega, by go_num, HG.out.trans ⟨_, #[], by rw [Sort.grow_empty]⟩⟩
                    case measure => simp [intOf]; omega
              · obtain rfl : j3 = j := by omega
                have hBe : Below w.heap.size w wr := HBw.out.trans (hG.below.mono HBw.out.size)
                clear hG
                go_wp2
                go_ret
                exact ⟨rfl, hBe⟩

end Go.Proofs.Qxb6627703a
