import Derived.Test.Qxb6627703aAdd
namespace Go.Proofs.Qxb6627703a
open Go.RowKit Go.WideMaps Go.Maps
set_option linter.unusedSimpArgs false

theorem news6 (W : World) (x : R6) (T : TypeId) : ∀ j u, (encR x)[j]? = some u → (W.alloc (.cells (cells6 x) T)).cell? ((⟨W.heap.size, 0, none⟩ : Addr).add j) = some u := by
  intro j u h
  have ea : (⟨W.heap.size, 0, none⟩ : Addr).add j = ⟨W.heap.size, j, none⟩ := by
    unfold Addr.add
    split <;> simp_all
  have ec : (cells6 x)[j]? = some u := by
    rw [← h]
    show (encR x).toArray[j]? = _
    rw [List.getElem?_toArray]
  rw [ea]
  exact (At.box0 W (cells6 x) T).2 j u ec
theorem one6 (x : R6) : ∀ u ∈ encR x, u.oneCell' = true := by
  intro u hu
  simp [encR] at hu
  rcases hu with rfl | rfl | rfl | rfl | rfl | rfl <;> rfl

theorem addL_take {l : List R6} {k : Nat} (hk : k < l.length) (r : R6) : addL (l.take (k + 1)) r = stepR (addL (l.take k) r) (fn l k) := by
  have e : fn l k = l[k] := by simp [fn, List.getD, List.getElem?_eq_getElem hk]
  rw [List.take_succ_eq_append_getElem hk, addL_snoc, e]

theorem At.put3 {w : World} {b g : Nat} {vs : Array Value} (h : At w b vs) (hg : b ≠ g) (o : Nat) (c : C3) : At (put3 w g o c) b vs := by
  have ne : ∀ k o' : Nat, (⟨g, o', none⟩ : Addr) ≠ ⟨b, k, none⟩ := by
    intro k o' e
    injection e with e
    exact hg e.symm
  refine ⟨by unfold Qxb6627703a.put3; rw [size_setCell, size_setCell, size_setCell]; exact h.1, fun k v hv => ?_⟩
  unfold Qxb6627703a.put3
  rw [World.cell?_setCell_other _ _ _ _ (ne _ _), World.cell?_setCell_other _ _ _ _ (ne _ _), World.cell?_setCell_other _ _ _ _ (ne _ _)]
  exact h.2 k v hv

theorem look_put {w : World} {vb n x : Nat} {D : DataW Sl} {s : Sl} {key : Value} (ho : w.ownsMap Try.prog 35 R vb n (D.put (kl x) (.held s))) (hm : IsMap D) (hkey : keyOf Try.prog 35 key = some (kl x)) :
    (Instr.lookup 31 (.map (some vb)) key false).run Try.prog w = .ok (vS s) w := by
  obtain ⟨v, ps, hrun, hv⟩ := ho.lookup (t := 31) law35 Try.underlying31 (zero50 w) (R_mk (none, 0, 0)) hkey
  obtain ⟨s', rfl, hs⟩ := R_inv hv
  rw [atKey_put_same hm (isKey_kl _)] at hs
  injection hs with hs
  rw [hs]
  exact hrun

theorem sortAt {w1 w2 : World} {base g gcap vb : Nat} {ap : List R6} {rr : R6} (ho : w1.ownsRow base 39 6 (.slice (some ⟨g, 0, none⟩) (ap.length + 1) gcap) (ap.length + 1) (ap.flatMap encR ++ encR rr)) (hg2 : w1.grownBy w2 (some vb)) (hne : g ≠ vb) (hlt : g < w1.heap.size) (hs : ap.length ≤ 1048576) :
    Calls Try.prog 20 #[.slice (some ⟨g, 0, none⟩) (ap.length + 1) gcap, .func (.func 18) #[] #[]] w2 fun e w' =>
      e = .returned (.tuple #[]) ∧ But g w2 w' ∧ ∃ l' : List R6, l'.Perm (ap ++ [rr]) ∧ RunsAt w' (some ⟨g, 0, none⟩) l'.length (fn l') := by
  have ho2 := ho.kept hg2 (.inr (by intro q; injection q with q; exact hne q))
  have ho3 : w2.ownsRow base 39 6 (.slice (some ⟨g, 0, none⟩) (ap ++ [rr]).length gcap) (ap ++ [rr]).length ((ap ++ [rr]).flatMap encR) := by
    have e : (ap ++ [rr]).flatMap encR = ap.flatMap encR ++ encR rr := by simp
    rw [e, List.length_append]
    exact ho2
  have h := sort20 g gcap (ap ++ [rr]).toArray w2 (holdsK_of_owns ho3) (Nat.lt_of_lt_of_le hlt hg2.size) (by simp; omega)
  have esz : (ap ++ [rr]).toArray.size = ap.length + 1 := by simp
  rw [esz] at h
  refine h.mono ?_
  rintro e w' ⟨rfl, hb, d', hp, hr⟩
  refine ⟨rfl, hb, d'.toList, hp, ?_⟩
  have hl : d'.toList.length = ap.length + 1 := by rw [hp.length_eq]; simp
  rw [hl]
  refine hr.congr fun k hk => ?_
  unfold fn
  rw [← getD_toArray (by omega)]

/-- Add's end. -/
def AddEnd (w : World) (vb c : Nat) (V : Nat → List R6) (r : R6) (w' : World) : Prop := ∃ V', Vec w' vb (c + 1) V' ∧ AddPost V V' r ∧ w.grownBy w' (some vb)

theorem add_end {w w1 w2 w3 : World} {vb c n x g gcap : Nat} {V : Nat → List R6} {r rr : R6} {ap l' : List R6} {D : DataW Sl} {S : Nat → Sl} (hm : IsMap D) (hn : n ≤ c)
    (hA : ∀ k, k < 65536 → D.atKey (kl k) (.held (none, 0, 0)) = .held (S k)) (hR : ∀ k, k < 65536 → Row w vb (S k) (V k)) (hvb : vb < w.heap.size) (hB1 : Below w.heap.size w w1)
    (ho2 : w2.ownsMap Try.prog 35 R vb (n + 1) (D.put (kl x) (.held (some ⟨g, 0, none⟩, ap.length + 1, gcap)))) (hg2 : w1.grownBy w2 (some vb)) (hb : But g w2 w3) (hg : w.heap.size ≤ g)
    (hr : RunsAt w3 (some ⟨g, 0, none⟩) l'.length (fn l')) (hp : l'.Perm (ap ++ [rr])) (hF : (ap, rr) = addL (V x) r) (hS : SmallV V) (hx : (x : Int) = r.2.2.2) (hx6 : x < 65536) : AddEnd w vb c V r w3 := by
  have h12 : w.heap.size ≤ w2.heap.size := Nat.le_trans hB1.size hg2.size
  have hgr : w.grownBy w3 (some vb) := by
    refine ⟨hb.os.trans (hg2.os.trans hB1.os), hb.tape.trans (hg2.tape.trans hB1.tape), hb.output.trans (hg2.output.trans hB1.output), Nat.le_trans h12 hb.size, fun k hk hne => ?_⟩
    rw [hb.block k (by omega) (by omega), hg2.block k (Nat.lt_of_lt_of_le hk hB1.size) hne, hB1.block k hk]
  have ho3 := owns_of ho2 (hb.block vb (by omega) (by omega))
  have hlen : l'.length = ap.length + 1 := by rw [hp.length_eq]; simp
  have hrow : Row w3 vb (some ⟨g, 0, none⟩, ap.length + 1, gcap) l' := ⟨hlen.symm, hr, fun a h => by injection h with h; subst h; show g ≠ vb; omega⟩
  obtain ⟨n', D', S', hn', rest⟩ := Vec.put' hm hA hR ho3 hgr hrow
  refine ⟨updV V x l', ⟨n', D', S', by omega, rest⟩, addPost_of hS hx hx6 ?_, hgr⟩
  rw [← hF]
  exact hp

set_option maxRecDepth 100000 in
set_option maxHeartbeats 8000000 in
theorem add11 (vb c x : Nat) (V : Nat → List R6) (r : R6) (w : World) (hV : Vec w vb c V) (hc : c ≤ 65536) (hS : SmallV V) (hx : (x : Int) = r.2.2.2) (hx6 : x < 65536) :
    Calls Try.prog 11 #[.map (some vb), vR r] w fun e w' => e = .returned (.tuple #[]) ∧ AddEnd w vb c V r w' := by
  obtain ⟨i0, hi, hz0, hz1, hz2⟩ := info_parts Try.info39
  have hvb := hV.lt
  have HV : Hid (Vec w vb c V) := hV
  have HS : Hid (SmallV V) := hS
  obtain ⟨s, hRow, hlook⟩ := hV.look hx6
  obtain ⟨L, hL⟩ : ∃ L, L = (V x).length := ⟨_, rfl⟩
  have HL : Hid (L = (V x).length) := hL
  have hl20 : L ≤ 1048576 := by rw [hL]; exact hS x hx6
  obtain ⟨h1, hRu, _⟩ := hRow
  obtain ⟨ao, len, cap⟩ := s
  dsimp only at h1 hRu
  rw [← hL] at hRu h1
  subst h1
  clear hL hV hS
  have HA0 : Hid (addL ((V x).take 0) r = ([], r)) := by show _ = _; simp [addL]
  have HR : Hid (vR r = .agg (cells6 r)) := rfl
  rw [HR.out]
  have hlk := hlook (w.alloc (.cells (cells6 r) 39)) (((Grew.refl w).alloc _).heap hvb)
  have HX : Hid ((x : Int) = r.2.2.2) := hx
  have HX6 : Hid (x < 65536) := hx6
  rw [hx] at hlk
  have hst0 := AddSt.start w r 39
  unfold vS at hlk
  dsimp only at hlk
  clear hlook hx hx6
  obtain ⟨⟨a1, a2, a3⟩, ⟨t1, t2, t3⟩⟩ := r
  unfold cells6 at *
  dsimp only at *
  go_enter Try.func11, Try.ntmps11
  go_wp2
  go_loopw [5, 15] (fun v i wr => ∃ k : Nat, k ≤ len ∧ i = .int .i64 k ∧ AddSt w v (addL ((V x).take k) ((a1, a2, a3), (t1, t2, t3))) wr) (fun _ i _ => len - (intOf i).toNat)
  case atStart => exact ⟨0, by omega, rfl, by rw [HA0.out]; exact hst0⟩
  case round =>
    clear hlk hst0
    obtain ⟨k, hk, rfl, hst⟩ := hrel
    obtain ⟨p, hp⟩ : ∃ p, p = addL ((V x).take k) ((a1, a2, a3), (t1, t2, t3)) := ⟨_, rfl⟩
    have HP : Hid (p = addL ((V x).take k) ((a1, a2, a3), (t1, t2, t3))) := hp
    rw [← hp] at hst
    clear hp
    obtain ⟨ap, rr⟩ := p
    have hap : ap.length ≤ k := by
      have h := addL_le ((V x).take k) ((a1, a2, a3), (t1, t2, t3))
      rw [← HP.out] at h
      simp at h
      omega
    have hsz : w.heap.size + 1 ≤ wr.heap.size := hst.box.1
    by_cases hlt : k < len
    · obtain ⟨b, off, rfl, hbl, c0', c1', c2', c3', c4', c5'⟩ := hRu k hlt
      have c0 := (hst.below.cell (p := ⟨b, off + k * 6, none⟩) hbl).trans c0'
      have c1 := (hst.below.cell (p := ⟨b, off + k * 6 + 1, none⟩) hbl).trans c1'
      have c2 := (hst.below.cell (p := ⟨b, off + k * 6 + 2, none⟩) hbl).trans c2'
      have c3 := (hst.below.cell (p := ⟨b, off + k * 6 + 3, none⟩) hbl).trans c3'
      have c4 := (hst.below.cell (p := ⟨b, off + k * 6 + 4, none⟩) hbl).trans c4'
      have c5 := (hst.below.cell (p := ⟨b, off + k * 6 + 5, none⟩) hbl).trans c5'
      have HN : Hid (addL ((V x).take (k + 1)) ((a1, a2, a3), (t1, t2, t3)) = stepR (ap, rr) (fn (V x) k)) := by
        show _ = _
        rw [addL_take (by have := HL.out; omega), ← HP.out]
      obtain ⟨h, hh⟩ : ∃ h, h = fn (V x) k := ⟨_, rfl⟩
      rw [← hh] at c0 c1 c2 c3 c4 c5 HN
      clear c0' c1' c2' c3' c4' c5' hh hRu HP
      have k1 := fun W => meets17 h rr W
      have k2 := fun W => compareStarts18 h rr W
      have k3 := fun W => compare19 h.2 rr.2 W
      unfold stepR hull at HN
      have hbox := hst.box.six
      unfold vR at k1 k2
      unfold vC at k3
      cases hm : meetsR h rr with
      | false =>
        rw [hm] at k1 HN
        clear k2 k3
        obtain ⟨⟨b1, b2, b3⟩, ⟨u1, u2, u3⟩⟩ := rr
        obtain ⟨⟨h1, h2, h3⟩, ⟨g1, g2, g3⟩⟩ := h
        dsimp only at k1 HN c0 c1 c2 c3 c4 c5 hbox
        obtain ⟨d0, d1, d2, d3, d4, d5⟩ := hbox
        have ca : ∀ o q, (wr.alloc o).cell? ⟨w.heap.size, q, none⟩ = wr.cell? ⟨w.heap.size, q, none⟩ := fun o q => World.cell?_alloc_lt _ _ _ hst.box.1
        go_wp2_with (first
          | (go_at_call 17; (with_reducible refine (k1 _).mono ?_); rintro e w2 ⟨rfl, hG2⟩; have hst2 := hst.grew (((Grew.refl wr).alloc _).trans hG2); obtain ⟨z0, z1, z2, z3, z4, z5⟩ := ((At.box0 wr _ _).of hG2).six)
          | (at_builtin; refine wpList_append_own _ rfl _ _ 50 rfl (w.heap.size + 1) 39 i0 _ 6 48 Try.underlying50 hi hz0 hz1 hz2 rfl (by decide) _ _ _ rfl (hst2.own.alloc _) ⟨w2.heap.size, 0, none⟩ 1 1 (encR ((h1, h2, h3), (g1, g2, g3))) rfl rfl (news6 w2 _ _) (one6 _) ?c3 ?c4 ?c5 ?_))
        · unfold maxLen; omega
        · omega
        · have := hst2.below.size
          have := hst2.box.1
          simp; omega
        · intro v' w' hown' hgr _
          have hst3 : AddSt w v' (ap ++ [((h1, h2, h3), (g1, g2, g3))], ((b1, b2, b3), (u1, u2, u3))) w' := (hst2.grew ((Grew.refl w2).alloc _)).append hown' hgr
          go_wp2
          go_roundw
          case rel => exact ⟨k + 1, by omega, by go_num, by rw [HN.out]; exact hst3⟩
          case measure => simp [intOf]; omega
      | true =>
        rw [hm, if_pos rfl] at HN
        rw [hm] at k1
        have ca : ∀ o q, (wr.alloc o).cell? ⟨w.heap.size, q, none⟩ = wr.cell? ⟨w.heap.size, q, none⟩ := fun o q => World.cell?_alloc_lt _ _ _ hst.box.1
        by_cases hcs : csR h rr < 0
        · by_cases hcm : cmpC h.2 rr.2 > 0
          all_goals
            rw [if_pos hcs] at HN
            first | rw [if_pos hcm] at HN | rw [if_neg hcm] at HN
            generalize csR h rr = cs at *
            generalize cmpC h.2 rr.2 = cm at *
            obtain ⟨⟨b1, b2, b3⟩, ⟨u1, u2, u3⟩⟩ := rr
            obtain ⟨⟨h1, h2, h3⟩, ⟨g1, g2, g3⟩⟩ := h
            dsimp only at k1 k2 k3 HN c0 c1 c2 c3 c4 c5 hbox
            have hne1 : ¬ wr.heap.size = w.heap.size := by omega
            have hne2 : ¬ w.heap.size = wr.heap.size := by omega
          · obtain ⟨d0, d1, d2, d3, d4, d5⟩ := hbox
            go_wp2_with (first
              | (go_at_call 17; (with_reducible refine (k1 _).mono ?_); rintro e w2 ⟨rfl, hG2⟩; have hst2 := hst.grew (((Grew.refl wr).alloc _).trans hG2); have hz2 := (At.box0 wr _ _).of hG2; obtain ⟨z0, z1, z2, z3, z4, z5⟩ := hz2.six; clear d0 d1 d2 d3 d4 d5; obtain ⟨d0, d1, d2, d3, d4, d5⟩ := hst2.box.six)
              | (go_at_call 18; (with_reducible refine (k2 _).mono ?_); rintro e w3 ⟨rfl, hG3⟩; have hst3 := hst2.grew hG3; have hz3 := hz2.of hG3; clear z0 z1 z2 z3 z4 z5 d0 d1 d2 d3 d4 d5; obtain ⟨z0, z1, z2, z3, z4, z5⟩ := hz3.six; obtain ⟨d0, d1, d2, d3, d4, d5⟩ := hst3.box.six; have fz3 := hst3.frz)
              | (go_at_call 19; (with_reducible refine (k3 _).mono ?_); rintro e w4 ⟨rfl, hG4⟩; have hst4 := (hst3.setA (h1, h2, h3)).grew hG4; have hz4 := (hz3.put3 (Nat.ne_of_gt hsz) 0 (h1, h2, h3)).of hG4; clear z0 z1 z2 z3 z4 z5 d0 d1 d2 d3 d4 d5; obtain ⟨z0, z1, z2, z3, z4, z5⟩ := hz4.six; obtain ⟨d0, d1, d2, d3, d4, d5⟩ := hst4.box.six; have fz4 := hst4.frz))
            go_roundw
            case rel => exact ⟨k + 1, by omega, by go_num, by rw [HN.out]; exact (hst4.setT (g1, g2, g3))⟩
            case measure => simp [intOf]; omega
          · obtain ⟨d0, d1, d2, d3, d4, d5⟩ := hbox
            go_wp2_with (first
              | (go_at_call 17; (with_reducible refine (k1 _).mono ?_); rintro e w2 ⟨rfl, hG2⟩; have hst2 := hst.grew (((Grew.refl wr).alloc _).trans hG2); have hz2 := (At.box0 wr _ _).of hG2; obtain ⟨z0, z1, z2, z3, z4, z5⟩ := hz2.six; clear d0 d1 d2 d3 d4 d5; obtain ⟨d0, d1, d2, d3, d4, d5⟩ := hst2.box.six)
              | (go_at_call 18; (with_reducible refine (k2 _).mono ?_); rintro e w3 ⟨rfl, hG3⟩; have hst3 := hst2.grew hG3; have hz3 := hz2.of hG3; clear z0 z1 z2 z3 z4 z5 d0 d1 d2 d3 d4 d5; obtain ⟨z0, z1, z2, z3, z4, z5⟩ := hz3.six; obtain ⟨d0, d1, d2, d3, d4, d5⟩ := hst3.box.six; have fz3 := hst3.frz)
              | (go_at_call 19; (with_reducible refine (k3 _).mono ?_); rintro e w4 ⟨rfl, hG4⟩; have hst4 := (hst3.setA (h1, h2, h3)).grew hG4; have hz4 := (hz3.put3 (Nat.ne_of_gt hsz) 0 (h1, h2, h3)).of hG4; clear z0 z1 z2 z3 z4 z5 d0 d1 d2 d3 d4 d5; obtain ⟨z0, z1, z2, z3, z4, z5⟩ := hz4.six; obtain ⟨d0, d1, d2, d3, d4, d5⟩ := hst4.box.six; have fz4 := hst4.frz))
            go_roundw
            case rel => exact ⟨k + 1, by omega, by go_num, by rw [HN.out]; exact hst4⟩
            case measure => simp [intOf]; omega
        · by_cases hcm : cmpC h.2 rr.2 > 0
          all_goals
            rw [if_neg hcs] at HN
            first | rw [if_pos hcm] at HN | rw [if_neg hcm] at HN
            generalize csR h rr = cs at *
            generalize cmpC h.2 rr.2 = cm at *
            obtain ⟨⟨b1, b2, b3⟩, ⟨u1, u2, u3⟩⟩ := rr
            obtain ⟨⟨h1, h2, h3⟩, ⟨g1, g2, g3⟩⟩ := h
            dsimp only at k1 k2 k3 HN c0 c1 c2 c3 c4 c5 hbox
            have hne1 : ¬ wr.heap.size = w.heap.size := by omega
            have hne2 : ¬ w.heap.size = wr.heap.size := by omega
          · obtain ⟨d0, d1, d2, d3, d4, d5⟩ := hbox
            go_wp2_with (first
              | (go_at_call 17; (with_reducible refine (k1 _).mono ?_); rintro e w2 ⟨rfl, hG2⟩; have hst2 := hst.grew (((Grew.refl wr).alloc _).trans hG2); have hz2 := (At.box0 wr _ _).of hG2; obtain ⟨z0, z1, z2, z3, z4, z5⟩ := hz2.six; clear d0 d1 d2 d3 d4 d5; obtain ⟨d0, d1, d2, d3, d4, d5⟩ := hst2.box.six)
              | (go_at_call 18; (with_reducible refine (k2 _).mono ?_); rintro e w3 ⟨rfl, hG3⟩; have hst3 := hst2.grew hG3; have hz3 := hz2.of hG3; clear z0 z1 z2 z3 z4 z5 d0 d1 d2 d3 d4 d5; obtain ⟨z0, z1, z2, z3, z4, z5⟩ := hz3.six; obtain ⟨d0, d1, d2, d3, d4, d5⟩ := hst3.box.six; have fz3 := hst3.frz)
              | (go_at_call 19; (with_reducible refine (k3 _).mono ?_); rintro e w4 ⟨rfl, hG4⟩; have hst4 := hst3.grew hG4; have hz4 := (hz3).of hG4; clear z0 z1 z2 z3 z4 z5 d0 d1 d2 d3 d4 d5; obtain ⟨z0, z1, z2, z3, z4, z5⟩ := hz4.six; obtain ⟨d0, d1, d2, d3, d4, d5⟩ := hst4.box.six; have fz4 := hst4.frz))
            go_roundw
            case rel => exact ⟨k + 1, by omega, by go_num, by rw [HN.out]; exact (hst4.setT (g1, g2, g3))⟩
            case measure => simp [intOf]; omega
          · obtain ⟨d0, d1, d2, d3, d4, d5⟩ := hbox
            go_wp2_with (first
              | (go_at_call 17; (with_reducible refine (k1 _).mono ?_); rintro e w2 ⟨rfl, hG2⟩; have hst2 := hst.grew (((Grew.refl wr).alloc _).trans hG2); have hz2 := (At.box0 wr _ _).of hG2; obtain ⟨z0, z1, z2, z3, z4, z5⟩ := hz2.six; clear d0 d1 d2 d3 d4 d5; obtain ⟨d0, d1, d2, d3, d4, d5⟩ := hst2.box.six)
              | (go_at_call 18; (with_reducible refine (k2 _).mono ?_); rintro e w3 ⟨rfl, hG3⟩; have hst3 := hst2.grew hG3; have hz3 := hz2.of hG3; clear z0 z1 z2 z3 z4 z5 d0 d1 d2 d3 d4 d5; obtain ⟨z0, z1, z2, z3, z4, z5⟩ := hz3.six; obtain ⟨d0, d1, d2, d3, d4, d5⟩ := hst3.box.six; have fz3 := hst3.frz)
              | (go_at_call 19; (with_reducible refine (k3 _).mono ?_); rintro e w4 ⟨rfl, hG4⟩; have hst4 := hst3.grew hG4; have hz4 := (hz3).of hG4; clear z0 z1 z2 z3 z4 z5 d0 d1 d2 d3 d4 d5; obtain ⟨z0, z1, z2, z3, z4, z5⟩ := hz4.six; obtain ⟨d0, d1, d2, d3, d4, d5⟩ := hst4.box.six; have fz4 := hst4.frz))
            go_roundw
            case rel => exact ⟨k + 1, by omega, by go_num, by rw [HN.out]; exact hst4⟩
            case measure => simp [intOf]; omega
    · obtain rfl : k = len := by omega
      have hfull : (ap, rr) = addL (V x) ((a1, a2, a3), (t1, t2, t3)) := by
        rw [HP.out, HL.out, List.take_length]
      have HF : Hid ((ap, rr) = addL (V x) ((a1, a2, a3), (t1, t2, t3))) := hfull
      clear hfull hRu
      have hbox := hst.box.six
      obtain ⟨⟨b1, b2, b3⟩, ⟨u1, u2, u3⟩⟩ := rr
      dsimp only at hbox
      obtain ⟨d0, d1, d2, d3, d4, d5⟩ := hbox
      go_wp2_with (at_builtin; refine wpList_append_lies _ rfl _ _ 50 rfl (w.heap.size + 1) 39 i0 _ 6 48 Try.underlying50 hi hz0 hz1 hz2 rfl (by decide) _ _ _ rfl (hst.own.alloc _) ⟨wr.heap.size, 0, none⟩ 1 1 (encR ((b1, b2, b3), (u1, u2, u3))) rfl rfl (news6 wr _ _) (one6 _) (by decide) ?e3 ?e4 ?e5 (wr.heap.size + 1) (by simp) ?_)
      · unfold maxLen; omega
      · omega
      · simp; omega
      intro g gcap w1 hown1 hgr1 hat1 hlt1
      have hB1 : Below w.heap.size w w1 := (hst.below.alloc hst.below.size _).grown hgr1 (by have := hst.below.size; simp; omega) (fun j hj => by have := (hst.own.lt j hj).1; omega)
      have hgb : w.heap.size + 1 ≤ g := by
        rcases hat1 with q | q
        · exact (hst.own.lt g q).1
        · omega
      obtain ⟨n, D, S, hn, ho, hat, hrow⟩ := HV.out
      have HA : Hid (∀ k, k < 65536 → D.atKey (kl k) (.held (none, 0, 0)) = .held (S k)) := hat
      have HRw : Hid (∀ j, j < 65536 → Row w vb (S j) (V j)) := hrow
      have ho1 : w1.ownsMap Try.prog 35 R vb n D := owns_of ho (hB1.block vb hvb)
      have hkey : keyOf Try.prog 35 (.int .u16 t3) = some (kl x) := by rw [← HX.out]; exact key35 HX6.out
      clear hat hrow hat1
      go_wp2_with (at_mapUpdate; refine wpList_mapUpdate_own _ rfl _ _ _ 31 rfl 35 50 law35 Try.underlying31 R vb n D rfl ho1 (by unfold maxLen; omega) _ _ (kl x) rfl rfl hkey _ [] (R_mk (some ⟨g, 0, none⟩, ap.length + 1, gcap)) ?_; intro w2 ho2 hg2; have hlk2 := look_put ho2 ho1.isMap hkey; unfold vS at hlk2; dsimp only at hlk2)
      have hgv : g ≠ vb := by omega
      refine (sortAt hown1 hg2 hgv hlt1 (by omega)).mono ?_
      rintro e w3 ⟨rfl, hbut, l', hp, hr⟩
      have hend : AddEnd w vb c V ((a1, a2, a3), (t1, t2, t3)) w3 := add_end ho1.isMap (by omega) HA.out HRw.out hvb hB1 ho2 hg2 hbut (by omega) hr hp HF.out HS.out HX.out HX6.out
      clear hp hr hbut
      go_wp2
      go_end0
      exact ⟨rfl, hend⟩

end Go.Proofs.Qxb6627703a
