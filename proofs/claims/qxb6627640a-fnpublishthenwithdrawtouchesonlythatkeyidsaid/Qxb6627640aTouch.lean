import Derived.Test.Qxb6627640aScript
namespace Go.Proofs.Qxb6627640a
open Go.RowKit Go.WideMaps Go.Maps Go.MuLone
set_option linter.unusedSimpArgs false

theorem ne_str {a b : ByteArray} (h : a ≠ b) : (a.toList == b.toList) = false := by
  cases e : (a.toList == b.toList) with
  | false => rfl
  | true => exact absurd (str_eq e) h

theorem Prov.alloc {w : World} {pb mb c : Nat} {F : ByteArray → Option Addr} {N : Nat} (h : Prov w pb mb c F N) (o : Obj) : Prov (w.alloc o) pb mb c F N :=
  h.below ((Below.refl w.heap.size w).alloc (Nat.le_refl _) o) h.lt h.map.lt

theorem Prov.setCell {w : World} {pb mb c b o : Nat} {F : ByteArray → Option Addr} {N : Nat} (h : Prov w pb mb c F N) (h1 : b ≠ pb) (h2 : b ≠ mb) (v : Value) : Prov (w.setCell ⟨b, o, none⟩ v) pb mb c F N :=
  ⟨h.ne, by have := h.lt; simp [World.setCell]; omega, by rw [World.cell?_setCell_other _ _ _ _ (by intro e; injection e with e; exact h1 e)]; exact h.c2,
    by rw [World.cell?_setCell_other _ _ _ _ (by intro e; injection e with e; exact h1 e)]; exact h.c4, by rw [World.frozen?_setCell]; exact h.f2, h.map.of (Below.heap_setCell _ _ _ _ (fun e => h2 e.symm))⟩

theorem Prov.pos {w : World} {pb mb c : Nat} {F : ByteArray → Option Addr} {N : Nat} (h : Prov w pb mb c F N) {s : ByteArray} (hs : (F s).isSome = true) : 1 ≤ N := by
  obtain ⟨n, D, _, ho, hh, _, hsz⟩ := h.map
  have := size_del (k := kl s) (ho.tidy law)
  rw [hh s, hs] at this
  simp at this
  omega

/-- The pointers that were held before. -/
structure Bef (wr : World) (kb len k : Nat) (V : Nat → Option Addr) : Prop where
  lt : kb < wr.heap.size
  there : ∀ j, j < len → ∃ v, wr.cell? ⟨kb, j, none⟩ = some v
  frz : ∀ j, wr.frozen? ⟨kb, j, none⟩ = false
  cells : ∀ j, j < k → wr.cell? ⟨kb, j, none⟩ = some (.pointer (V j))

theorem Bef.step {wr : World} {kb len k : Nat} {V : Nat → Option Addr} (h : Bef wr kb len k V) (hk : k < len) : Bef (wr.setCell ⟨kb, k, none⟩ (.pointer (V k))) kb len (k + 1) V := by
  have key : ∀ j v, wr.cell? ⟨kb, j, none⟩ = some v → (wr.setCell ⟨kb, k, none⟩ (.pointer (V k))).cell? ⟨kb, j, none⟩ = some (if j = k then .pointer (V k) else v) := by
    intro j v hv
    by_cases e : j = k
    · subst e; rw [if_pos rfl]; exact World.cell?_setCell_same _ _ _ hv
    · rw [if_neg e, World.cell?_setCell_other _ _ _ _ (by intro he; injection he with _ he; exact e he.symm)]; exact hv
  refine ⟨by have := h.lt; simp [World.setCell]; omega, fun j hj => ?_, fun j => by rw [World.frozen?_setCell]; exact h.frz j, fun j hj => ?_⟩
  · obtain ⟨v, hv⟩ := h.there j hj
    exact ⟨_, key j v hv⟩
  · by_cases e : j = k
    · obtain ⟨v, hv⟩ := h.there j (by omega)
      rw [key j v hv, if_pos e, e]
    · rw [key j _ (h.cells j (by omega)), if_neg e]

theorem Bef.only {wr w' : World} {kb len k pb mb : Nat} {V : Nat → Option Addr} (h : Bef wr kb len k V) (hO : Only wr w' pb mb) (h1 : kb ≠ pb) (h2 : kb ≠ mb) : Bef w' kb len k V :=
  ⟨by rw [hO.size]; exact h.lt, fun j hj => by rw [hO.cell h1 h2]; exact h.there j hj, fun j => by rw [hO.frozen h1 h2]; exact h.frz j, fun j hj => by rw [hO.cell h1 h2]; exact h.cells j hj⟩

theorem Bef.alloc {wr : World} {kb len k : Nat} {V : Nat → Option Addr} (h : Bef wr kb len k V) (o : Obj) : Bef (wr.alloc o) kb len k V :=
  ⟨by have := h.lt; simp; omega, fun j hj => by rw [World.cell?_alloc_past _ _ _ h.lt]; exact h.there j hj, fun j => by rw [World.frozen?_alloc_old _ _ _ (show kb ≠ _ by have := h.lt; omega)]; exact h.frz j,
    fun j hj => by rw [World.cell?_alloc_past _ _ _ h.lt]; exact h.cells j hj⟩

theorem upd_same (F : ByteArray → Option Addr) (s : ByteArray) (p : Option Addr) : upd F s p s = p := by unfold upd; exact if_pos rfl
theorem upd_other {F : ByteArray → Option Addr} {s x : ByteArray} {p : Option Addr} (h : x ≠ s) : upd F s p x = F x := by unfold upd; exact if_neg h
theorem Bef.drewN {wr : World} {kb len k : Nat} {V : Nat → Option Addr} (h : Bef wr kb len k V) (n : Nat) : Bef (wr.drewN n) kb len k V := ⟨h.lt, h.there, h.frz, h.cells⟩

set_option maxRecDepth 100000 in
set_option maxHeartbeats 4000000 in
theorem walk4 (id : ByteArray) (ao : Option Addr) (len cap : Nat) (Ks : Nat → ByteArray) (Pu : Nat → Bool) (w : World)
    (hid : id.size ≤ maxLen) (hl : len ≤ maxLen) (hM : OpsAt w ao len Ks Pu) :
    Calls Try.prog 4 #[.slice ao len cap, .string id] w fun e w' => e = .returned (.bool true) ∧ Below w.heap.size w w' := by
  obtain ⟨i0, hi, hz0, hz1, hz2⟩ := info_parts Try.info29
  go_enter Try.func4, Try.ntmps4
  go_wp2_with fail
  refine (bytes12 id ao len cap Ks Pu w hid hl hM).mono ?_
  rintro e w1 ⟨⟨bo, rfl, hshort⟩, rfl⟩
  unfold maxLen at hid hl
  cases bo with
  | false =>
    clear hshort
    go_wp2
    go_ret
    exact ⟨rfl, Below.refl _ _⟩
  | true =>
    have HSH : Hid (∀ j, j < len → (Ks j).size ≤ 1048576) := hshort rfl
    clear hshort
    by_cases h4 : 4096 < len
    · go_wp2
      go_ret
      exact ⟨rfl, Below.refl _ _⟩
    by_cases h20 : 1048576 < id.size
    · go_wp2
      go_ret
      exact ⟨rfl, Below.refl _ _⟩
    go_wp2
    go_loop [5, 6] (fun n i => ∃ (m : Int) (k : Nat), 0 ≤ m ∧ m ≤ 1048576 ∧ k ≤ len ∧ n = .int .i64 m ∧ i = .int .i64 k) (fun _ i => len - (intOf i).toNat)
    case atStart => exact ⟨_, 0, by omega, by omega, by omega, rfl, rfl⟩
    case round =>
      obtain ⟨m, k, hm0, hm1, hk, rfl, rfl⟩ := hrel
      by_cases hlt : k < len
      · obtain ⟨b, off, rfl, c0, c1, z0, _⟩ := hM k hlt
        have hsh := HSH.out k hlt
        unfold maxLen at *
        clear hM
        go_wp2
        · go_ret
          exact ⟨rfl, Below.refl _ _⟩
        · go_round
          case rel => exact ⟨_, k + 1, by omega, by assumption, by omega, rfl, by go_num⟩
          case measure => simp [intOf]; omega
      · go_wp2_with fail
        refine (newProvider6 _).mono ?_
        rintro e w2 ⟨rfl, rfl⟩
        have hst : Prov ((w1.alloc (Obj.map #[] 0)).alloc (Obj.cells #[Value.string { data := #[] }, Value.pointer none, Value.int IntKind.i32 0, Value.int IntKind.u32 0, Value.map (some w1.heap.size), Value.int IntKind.i64 0] 45)) (w1.heap.size + 1) w1.heap.size 0 (fun _ => none) 0 :=
          ⟨by omega, by simp, by go_simp, by go_simp, by go_simp, (PMap.empty w1).of (Below.heap_alloc _ _ _ (by simp))⟩
        have hb0 : Below w1.heap.size w1 ((w1.alloc (Obj.map #[] 0)).alloc (Obj.cells #[Value.string { data := #[] }, Value.pointer none, Value.int IntKind.i32 0, Value.int IntKind.u32 0, Value.map (some w1.heap.size), Value.int IntKind.i64 0] 45)) :=
          (Below.refl _ _).alloc (Nat.le_refl _) _ |>.alloc (by simp) _
        have HST : Hid _ := hst
        clear hst
        go_wp2_with fail
        go_loopw [8] (fun i wr => ∃ (k : Nat) (F : ByteArray → Option Addr) (N : Nat), k ≤ len ∧ i = .int .i64 k ∧ Prov wr (w1.heap.size + 1) w1.heap.size k F N ∧ Below w1.heap.size w1 wr) (fun i _ => len - (intOf i).toNat)
        case atStart => exact ⟨0, _, _, by omega, rfl, HST.out, hb0⟩
        case round =>
          clear HST hb0
          obtain ⟨k2, F, N, hk2, rfl, hP, hB⟩ := hrel
          by_cases hlt2 : k2 < len
          · obtain ⟨b, off, rfl, c0', c1', z0, hbl⟩ := hM k2 hlt2
            have c0 := (hB.cell (p := ⟨b, off + k2 * 2, none⟩) hbl).trans c0'
            have c1 := (hB.cell (p := ⟨b, off + k2 * 2 + 1, none⟩) hbl).trans c1'
            have hwz := hB.size
            have c0a := fun o => (World.cell?_alloc_past (w := wr) o b (off + k2 * 2) (by omega)).trans c0
            clear hM c0' c1'
            cases hpu : Pu k2 with
            | true =>
              rw [hpu] at c1
              clear hpu
              go_wp2_with fail
              go_region_with (first | (go_at_call 7; refine (newKey7 _).mono ?_; rintro e w3 ⟨rfl, rfl⟩) | (go_at_call 8; refine (publish8 _ (w1.heap.size + 1) w1.heap.size k2 F N (Ks k2) (some _) z0 (by unfold maxLen; omega) (by exact (hP.alloc _).drew)).mono ?_; rintro e w4 ⟨rfl, hP4, hO4⟩))
              all_goals
                have hB4 : Below w1.heap.size w1 w4 := (hB.alloc hB.size _).trans (hO4.undrew.below (by omega) (by omega))
                clear hO4 c0 c1 c0a hB hP
                go_wp2
                go_roundw
                case rel => exact ⟨k2 + 1, _, _, by omega, by go_num, hP4, hB4⟩
                case measure => simp [intOf]; omega
            | false =>
              rw [hpu] at c1
              clear hpu
              go_wp2_with (go_at_call 8; refine (publish8 _ (w1.heap.size + 1) w1.heap.size k2 F N (Ks k2) none z0 (by unfold maxLen; omega) hP).mono ?_; rintro e w4 ⟨rfl, hP4, hO4⟩)
              go_roundw
              case rel => exact ⟨k2 + 1, _, _, by omega, by go_num, hP4, hB.trans (hO4.below (by omega) (by omega))⟩
              case measure => simp [intOf]; omega
          · obtain rfl : k2 = len := by omega
            obtain ⟨W, hWr⟩ : ∃ W, W = wr := ⟨_, rfl⟩
            subst hWr
            have hpl := hP.lt
            have hml := hP.map.lt
            have hpb2 := hP.pos (s := id)
            have hNl := hP.map.le
            go_wp2_with (at_make; refine wpList_make_full _ rfl _ _ 28 rfl W.heap.size 29 i0 _ 1 Try.underlying28 hi hz0 hz1 _ _ _ _ k2 rfl rfl rfl rfl ?b2 ?b3 ?b4 ?_)
            · rw [hz2]; omega
            · unfold maxLen; omega
            · exact Nat.le_refl _
            intro w2 hown hgr
            have hb2 : Below W.heap.size W w2 := (Below.refl _ _).grown hgr (Nat.le_refl _) (by intro k h; cases h)
            have hP2 := hP.below hb2 hpl hml
            have hB2 := hB.trans (hb2.mono hB.size)
            have hbf : Bef w2 W.heap.size k2 0 (fun j => F (Ks j)) := ⟨Room_of hown, fun j hj => by
              rw [hown.cellAt j (by omega), toList_madeCells_one]
              exact ⟨.pointer none, by simp [hj]⟩, fun j => hown.frozenAt j, fun j hj => absurd hj (by omega)⟩
            have HBF : Hid _ := hbf
            have HP2 : Hid _ := hP2
            have HP1 : Hid _ := hpb2
            clear hown hgr hb2 hP hB hbf hP2 hpb2
            go_wp2
            go_loopw [10] (fun i wr => ∃ (k3 : Nat), k3 ≤ k2 ∧ i = .int .i64 k3 ∧ Prov wr (w1.heap.size + 1) w1.heap.size k2 F N ∧ Bef wr W.heap.size k2 k3 (fun j => F (Ks j)) ∧ Below w1.heap.size w1 wr) (fun i _ => k2 - (intOf i).toNat)
            case atStart => exact ⟨0, by omega, rfl, HP2.out, HBF.out, hB2⟩
            case round =>
              clear HBF HP2 hB2
              obtain ⟨k3, hk3, rfl, hP, hbf, hB⟩ := hrel
              have hwz := hB.size
              by_cases hlt3 : k3 < k2
              · obtain ⟨b, off, rfl, c0', c1', z0, hbl⟩ := hM k3 hlt3
                have c0 := (hB.cell (p := ⟨b, off + k3 * 2, none⟩) hbl).trans c0'
                obtain ⟨vv, g0⟩ := hbf.there k3 hlt3
                have gf := hbf.frz k3
                clear hM c0' c1'
                go_wp2_with (go_at_call 10; refine (lookup10 _ _ _ _ _ _ (Ks k3) z0 hP).mono ?_; rintro e w4 ⟨rfl, rfl⟩)
                go_roundw
                case rel => exact ⟨k3 + 1, by omega, by go_num, hP.setCell (by omega) (by omega) _, hbf.step hlt3, hB.setCell (p := ⟨W.heap.size, k3, none⟩) (show w1.heap.size ≤ W.heap.size by omega) _⟩
                case measure => simp [intOf]; omega
              · obtain rfl : k3 = k2 := by omega
                have HM0 : Hid (OpsAt w1 ao k3 Ks Pu) := hM
                have hidm : id.size ≤ maxLen := by unfold maxLen; omega
                clear hM
                obtain ⟨W3, hW3⟩ : ∃ W3, W3 = wr := ⟨_, rfl⟩
                subst hW3
                have hq0 : ∃ bq, (F id).isSome = bq := ⟨_, rfl⟩
                obtain ⟨bq, hbq⟩ := hq0
                have hhas0 := has9 W3 _ _ _ _ _ id hidm hP
                rw [hbq] at hhas0
                have hcnt0 := count11 W3 _ _ _ _ _ hP
                have HH0 : Hid _ := hhas0
                have HC0 : Hid _ := hcnt0
                clear hhas0 hcnt0
                have HBQ : Hid _ := hbq
                clear hbq
                go_wp2_with fail
                refine Calls.mono HH0.out ?_
                rintro e w4 ⟨rfl, he4⟩
                subst he4
                go_wp2_with fail
                refine Calls.mono HC0.out ?_
                rintro e w5 ⟨rfl, he5⟩
                subst he5
                go_wp2_with fail
                refine (newKey7 _).mono ?_
                rintro e w6 ⟨rfl, rfl⟩
                go_wp2_with fail
                obtain ⟨A, hA⟩ : ∃ A, A = (⟨w5.heap.size, 0, none⟩ : Addr) := ⟨_, rfl⟩
                rw [← hA]
                clear hA
                refine (publish8 _ (w1.heap.size + 1) w1.heap.size k3 F N id (some A) hidm (by unfold maxLen; omega) (hP.alloc _)).mono ?_
                rintro e w6 ⟨rfl, hP6, hO6⟩
                have hbf6 := (hbf.alloc (Obj.cells #[Value.pointer none, Value.int IntKind.i64 0] 48)).only hO6 (by omega) (by omega)
                have hB6 : Below w1.heap.size w1 w6 := (hB.alloc hB.size _).trans (hO6.below (by omega) (by omega))
                clear hbf hB hP hO6 HH0 HC0
                cases bq with
                | true =>
                  have hbq := HBQ.out
                  have hN1 : cstep F N id (some A) = N := by
                    simp only [cstep, cput, Option.isSome_some, if_true, hbq, Bool.false_eq_true, if_false]
                  rw [hN1] at hP6
                  have hpos := HP1.out hbq
                  clear hbq HBQ HP1 hN1
                  have hh6 : Calls Try.prog 9 #[.pointer (some ⟨w1.heap.size + 1, 0, none⟩), .string id] w6 fun e w' => e = .returned (.bool true) ∧ w6 = w' := by
                    have h := has9 w6 _ _ _ _ _ id hidm hP6
                    rw [upd_same] at h
                    exact h.mono fun e w' ⟨h1, h2⟩ => ⟨h1, h2.symm⟩
                  have hl6 : Calls Try.prog 10 #[.pointer (some ⟨w1.heap.size + 1, 0, none⟩), .string id] w6 fun e w' => e = .returned (.pointer (some A)) ∧ w6 = w' := by
                    have h := lookup10 w6 _ _ _ _ _ id hidm hP6
                    rw [upd_same] at h
                    exact h.mono fun e w' ⟨h1, h2⟩ => ⟨h1, h2.symm⟩
                  have hc6 : Calls Try.prog 11 #[.pointer (some ⟨w1.heap.size + 1, 0, none⟩)] w6 fun e w' => e = .returned (.int .i64 (N : Int)) ∧ w6 = w' := by
                    have h := count11 w6 _ _ _ _ _ hP6
                    exact h.mono fun e w' ⟨h1, h2⟩ => ⟨h1.trans (by first | rfl | (congr 1)), h2.symm⟩
                  have HH6 : Hid _ := hh6
                  have HL6 : Hid _ := hl6
                  have HC6 : Hid _ := hc6
                  clear hh6 hl6 hc6
                  have HMW : Hid (OpsAt w6 ao k3 Ks Pu) := HM0.out.of hB6
                  have HBF : Hid _ := hbf6
                  have HPR : Hid _ := hP6
                  clear hbf6 hP6
                  have hneq := neq_same
                  go_wp2_with (first | (go_at_call 9; refine Calls.mono HH6.out ?_; rintro e w' ⟨rfl, rfl⟩) | (go_at_call 10; refine Calls.mono HL6.out ?_; rintro e w' ⟨rfl, rfl⟩) | (go_at_call 11; refine Calls.mono HC6.out ?_; rintro e w' ⟨rfl, rfl⟩))
                  go_loopw [15] (fun i wr => ∃ (k5 q : Nat), k5 ≤ k3 ∧ i = .int .i64 k5 ∧ wr = w6.drewN q) (fun i _ => k3 - (intOf i).toNat)
                  case atStart => exact ⟨0, 0, by omega, rfl, rfl⟩
                  case round =>
                    obtain ⟨k5, q, hk5, rfl, rfl⟩ := hrel
                    by_cases hlt5 : k5 < k3
                    · obtain ⟨b, off, rfl, c0, c1, z0, hbl⟩ := HMW.out k5 hlt5
                      have g0 := HBF.out.cells k5 hlt5
                      by_cases hke : Ks k5 = id
                      · have hq : (!((Ks k5).toList == id.toList)) = false := by rw [hke]; simp
                        have hq2 : ((Ks k5).toList == id.toList) = true := by rw [hke]; simp
                        clear hke
                        go_wp2_with fail
                        go_quiet (fail)
                        go_wp2
                        go_roundw
                        case rel => exact ⟨k5 + 1, _, by omega, by go_num, rfl⟩
                        case measure => simp [intOf]; omega
                      · have hq2 : ((Ks k5).toList == id.toList) = false := ne_str hke
                        have hlook : ∀ n, Calls Try.prog 10 #[.pointer (some ⟨w1.heap.size + 1, 0, none⟩), .string (Ks k5)] (w6.drewN n) fun e w' => e = .returned (.pointer (F (Ks k5))) ∧ w' = w6.drewN n := fun n => by
                          have h := lookup10 (w6.drewN n) _ _ _ _ _ (Ks k5) z0 (HPR.out.drewN n)
                          rw [upd_other hke] at h
                          exact h
                        have HO : Hid _ := hlook
                        clear hlook hke
                        go_wp2_with fail
                        go_quiet ((go_at_call 10; exact quiet_add (HO.out _)))
                        go_wp2
                        go_roundw
                        case rel => exact ⟨k5 + 1, _, by omega, by go_num, rfl⟩
                        case measure => simp [intOf]; omega
                    · clear HH6 HL6 HC6
                      have hP6q := HPR.out.drewN q
                      go_wp2_with fail
                      refine (publish8 _ (w1.heap.size + 1) w1.heap.size (k3 + 1) _ _ id none hidm (by unfold maxLen; omega) hP6q).mono ?_
                      rintro e w7 ⟨rfl, hP7, hO7⟩
                      have hB7 : Below w1.heap.size w1 w7 := (below_drewN' hB6 q).trans (hO7.below (by omega) (by omega))
                      have hbf7 := (HBF.out.drewN q).only hO7 (by omega) (by omega)
                      have hh7 : Calls Try.prog 9 #[.pointer (some ⟨w1.heap.size + 1, 0, none⟩), .string id] w7 fun e w' => e = .returned (.bool false) ∧ w7 = w' := by
                        have h := has9 w7 _ _ _ _ _ id hidm hP7
                        rw [upd_same] at h
                        exact h.mono fun e w' ⟨h1, h2⟩ => ⟨h1, h2.symm⟩
                      have hl7 : Calls Try.prog 10 #[.pointer (some ⟨w1.heap.size + 1, 0, none⟩), .string id] w7 fun e w' => e = .returned (.pointer none) ∧ w7 = w' := by
                        have h := lookup10 w7 _ _ _ _ _ id hidm hP7
                        rw [upd_same] at h
                        exact h.mono fun e w' ⟨h1, h2⟩ => ⟨h1, h2.symm⟩
                      have hc7 : Calls Try.prog 11 #[.pointer (some ⟨w1.heap.size + 1, 0, none⟩)] w7 fun e w' => e = .returned (.int .i64 ((N : Int) - 1)) ∧ w7 = w' := by
                        have h := count11 w7 _ _ _ _ _ hP7
                        have hv : ((cstep (upd F id (some A)) N id none : Nat) : Int) = ((N : Int) - 1) := by
                          simp only [cstep, cdel, upd_same, Option.isSome_none, Option.isSome_some, if_true, Bool.false_eq_true, if_false]
                          omega
                        rw [hv] at h
                        exact h.mono fun e w' ⟨h1, h2⟩ => ⟨h1, h2.symm⟩
                      have HH7 : Hid _ := hh7
                      have HL7 : Hid _ := hl7
                      have HC7 : Hid _ := hc7
                      clear hh7 hl7 hc7
                      have HMW : Hid (OpsAt w7 ao k3 Ks Pu) := HM0.out.of hB7
                      have HBF : Hid _ := hbf7
                      have HPR : Hid _ := hP7
                      clear hbf7 hP7 hO7 hP6q hB6
                      go_wp2_with (first | (go_at_call 9; refine Calls.mono HH7.out ?_; rintro e w' ⟨rfl, rfl⟩) | (go_at_call 10; refine Calls.mono HL7.out ?_; rintro e w' ⟨rfl, rfl⟩) | (go_at_call 11; refine Calls.mono HC7.out ?_; rintro e w' ⟨rfl, rfl⟩))
                      go_loopw [17] (fun i wr => ∃ (k5 q : Nat), k5 ≤ k3 ∧ i = .int .i64 k5 ∧ wr = w7.drewN q) (fun i _ => k3 - (intOf i).toNat)
                      case atStart => exact ⟨0, 0, by omega, rfl, rfl⟩
                      case round =>
                        obtain ⟨k5, q, hk5, rfl, rfl⟩ := hrel
                        by_cases hlt5 : k5 < k3
                        · obtain ⟨b, off, rfl, c0, c1, z0, hbl⟩ := HMW.out k5 hlt5
                          have g0 := HBF.out.cells k5 hlt5
                          by_cases hke : Ks k5 = id
                          · have hq : (!((Ks k5).toList == id.toList)) = false := by rw [hke]; simp
                            have hq2 : ((Ks k5).toList == id.toList) = true := by rw [hke]; simp
                            clear hke
                            go_wp2_with fail
                            go_quiet (fail)
                            go_wp2
                            go_roundw
                            case rel => exact ⟨k5 + 1, _, by omega, by go_num, rfl⟩
                            case measure => simp [intOf]; omega
                          · have hq2 : ((Ks k5).toList == id.toList) = false := ne_str hke
                            have hlook : ∀ n, Calls Try.prog 10 #[.pointer (some ⟨w1.heap.size + 1, 0, none⟩), .string (Ks k5)] (w7.drewN n) fun e w' => e = .returned (.pointer (F (Ks k5))) ∧ w' = w7.drewN n := fun n => by
                              have h := lookup10 (w7.drewN n) _ _ _ _ _ (Ks k5) z0 (HPR.out.drewN n)
                              rw [upd_other hke, upd_other hke] at h
                              exact h
                            have HO : Hid _ := hlook
                            clear hlook hke
                            have hneq := neq_same
                            go_wp2_with fail
                            go_quiet ((go_at_call 10; exact quiet_add (HO.out _)))
                            go_wp2
                            go_roundw
                            case rel => exact ⟨k5 + 1, _, by omega, by go_num, rfl⟩
                            case measure => simp [intOf]; omega
                        · go_wp2
                          go_ret
                          exact ⟨rfl, below_drewN' hB7 _⟩
                | false =>
                  have hbq := HBQ.out
                  have hN1 : cstep F N id (some A) = (N + 1) := by
                    simp only [cstep, cput, Option.isSome_some, if_true, hbq, Bool.false_eq_true, if_false]
                  rw [hN1] at hP6
                  clear hbq HBQ HP1 hN1
                  have hh6 : Calls Try.prog 9 #[.pointer (some ⟨w1.heap.size + 1, 0, none⟩), .string id] w6 fun e w' => e = .returned (.bool true) ∧ w6 = w' := by
                    have h := has9 w6 _ _ _ _ _ id hidm hP6
                    rw [upd_same] at h
                    exact h.mono fun e w' ⟨h1, h2⟩ => ⟨h1, h2.symm⟩
                  have hl6 : Calls Try.prog 10 #[.pointer (some ⟨w1.heap.size + 1, 0, none⟩), .string id] w6 fun e w' => e = .returned (.pointer (some A)) ∧ w6 = w' := by
                    have h := lookup10 w6 _ _ _ _ _ id hidm hP6
                    rw [upd_same] at h
                    exact h.mono fun e w' ⟨h1, h2⟩ => ⟨h1, h2.symm⟩
                  have hc6 : Calls Try.prog 11 #[.pointer (some ⟨w1.heap.size + 1, 0, none⟩)] w6 fun e w' => e = .returned (.int .i64 ((N : Int) + 1)) ∧ w6 = w' := by
                    have h := count11 w6 _ _ _ _ _ hP6
                    exact h.mono fun e w' ⟨h1, h2⟩ => ⟨h1.trans (by first | rfl | (congr 1)), h2.symm⟩
                  have HH6 : Hid _ := hh6
                  have HL6 : Hid _ := hl6
                  have HC6 : Hid _ := hc6
                  clear hh6 hl6 hc6
                  have HMW : Hid (OpsAt w6 ao k3 Ks Pu) := HM0.out.of hB6
                  have HBF : Hid _ := hbf6
                  have HPR : Hid _ := hP6
                  clear hbf6 hP6
                  have hneq := neq_same
                  go_wp2_with (first | (go_at_call 9; refine Calls.mono HH6.out ?_; rintro e w' ⟨rfl, rfl⟩) | (go_at_call 10; refine Calls.mono HL6.out ?_; rintro e w' ⟨rfl, rfl⟩) | (go_at_call 11; refine Calls.mono HC6.out ?_; rintro e w' ⟨rfl, rfl⟩))
                  go_loopw [15] (fun i wr => ∃ (k5 q : Nat), k5 ≤ k3 ∧ i = .int .i64 k5 ∧ wr = w6.drewN q) (fun i _ => k3 - (intOf i).toNat)
                  case atStart => exact ⟨0, 0, by omega, rfl, rfl⟩
                  case round =>
                    obtain ⟨k5, q, hk5, rfl, rfl⟩ := hrel
                    by_cases hlt5 : k5 < k3
                    · obtain ⟨b, off, rfl, c0, c1, z0, hbl⟩ := HMW.out k5 hlt5
                      have g0 := HBF.out.cells k5 hlt5
                      by_cases hke : Ks k5 = id
                      · have hq : (!((Ks k5).toList == id.toList)) = false := by rw [hke]; simp
                        have hq2 : ((Ks k5).toList == id.toList) = true := by rw [hke]; simp
                        clear hke
                        go_wp2_with fail
                        go_quiet (fail)
                        go_wp2
                        go_roundw
                        case rel => exact ⟨k5 + 1, _, by omega, by go_num, rfl⟩
                        case measure => simp [intOf]; omega
                      · have hq2 : ((Ks k5).toList == id.toList) = false := ne_str hke
                        have hlook : ∀ n, Calls Try.prog 10 #[.pointer (some ⟨w1.heap.size + 1, 0, none⟩), .string (Ks k5)] (w6.drewN n) fun e w' => e = .returned (.pointer (F (Ks k5))) ∧ w' = w6.drewN n := fun n => by
                          have h := lookup10 (w6.drewN n) _ _ _ _ _ (Ks k5) z0 (HPR.out.drewN n)
                          rw [upd_other hke] at h
                          exact h
                        have HO : Hid _ := hlook
                        clear hlook hke
                        go_wp2_with fail
                        go_quiet ((go_at_call 10; exact quiet_add (HO.out _)))
                        go_wp2
                        go_roundw
                        case rel => exact ⟨k5 + 1, _, by omega, by go_num, rfl⟩
                        case measure => simp [intOf]; omega
                    · clear HH6 HL6 HC6
                      have hP6q := HPR.out.drewN q
                      go_wp2_with fail
                      refine (publish8 _ (w1.heap.size + 1) w1.heap.size (k3 + 1) _ _ id none hidm (by unfold maxLen; omega) hP6q).mono ?_
                      rintro e w7 ⟨rfl, hP7, hO7⟩
                      have hB7 : Below w1.heap.size w1 w7 := (below_drewN' hB6 q).trans (hO7.below (by omega) (by omega))
                      have hbf7 := (HBF.out.drewN q).only hO7 (by omega) (by omega)
                      have hh7 : Calls Try.prog 9 #[.pointer (some ⟨w1.heap.size + 1, 0, none⟩), .string id] w7 fun e w' => e = .returned (.bool false) ∧ w7 = w' := by
                        have h := has9 w7 _ _ _ _ _ id hidm hP7
                        rw [upd_same] at h
                        exact h.mono fun e w' ⟨h1, h2⟩ => ⟨h1, h2.symm⟩
                      have hl7 : Calls Try.prog 10 #[.pointer (some ⟨w1.heap.size + 1, 0, none⟩), .string id] w7 fun e w' => e = .returned (.pointer none) ∧ w7 = w' := by
                        have h := lookup10 w7 _ _ _ _ _ id hidm hP7
                        rw [upd_same] at h
                        exact h.mono fun e w' ⟨h1, h2⟩ => ⟨h1, h2.symm⟩
                      have hc7 : Calls Try.prog 11 #[.pointer (some ⟨w1.heap.size + 1, 0, none⟩)] w7 fun e w' => e = .returned (.int .i64 (N : Int)) ∧ w7 = w' := by
                        have h := count11 w7 _ _ _ _ _ hP7
                        have hv : ((cstep (upd F id (some A)) (N + 1) id none : Nat) : Int) = (N : Int) := by
                          simp only [cstep, cdel, upd_same, Option.isSome_none, Option.isSome_some, if_true, Bool.false_eq_true, if_false]
                          omega
                        rw [hv] at h
                        exact h.mono fun e w' ⟨h1, h2⟩ => ⟨h1, h2.symm⟩
                      have HH7 : Hid _ := hh7
                      have HL7 : Hid _ := hl7
                      have HC7 : Hid _ := hc7
                      clear hh7 hl7 hc7
                      have HMW : Hid (OpsAt w7 ao k3 Ks Pu) := HM0.out.of hB7
                      have HBF : Hid _ := hbf7
                      have HPR : Hid _ := hP7
                      clear hbf7 hP7 hO7 hP6q hB6
                      go_wp2_with (first | (go_at_call 9; refine Calls.mono HH7.out ?_; rintro e w' ⟨rfl, rfl⟩) | (go_at_call 10; refine Calls.mono HL7.out ?_; rintro e w' ⟨rfl, rfl⟩) | (go_at_call 11; refine Calls.mono HC7.out ?_; rintro e w' ⟨rfl, rfl⟩))
                      go_loopw [17] (fun i wr => ∃ (k5 q : Nat), k5 ≤ k3 ∧ i = .int .i64 k5 ∧ wr = w7.drewN q) (fun i _ => k3 - (intOf i).toNat)
                      case atStart => exact ⟨0, 0, by omega, rfl, rfl⟩
                      case round =>
                        obtain ⟨k5, q, hk5, rfl, rfl⟩ := hrel
                        by_cases hlt5 : k5 < k3
                        · obtain ⟨b, off, rfl, c0, c1, z0, hbl⟩ := HMW.out k5 hlt5
                          have g0 := HBF.out.cells k5 hlt5
                          by_cases hke : Ks k5 = id
                          · have hq : (!((Ks k5).toList == id.toList)) = false := by rw [hke]; simp
                            have hq2 : ((Ks k5).toList == id.toList) = true := by rw [hke]; simp
                            clear hke
                            go_wp2_with fail
                            go_quiet (fail)
                            go_wp2
                            go_roundw
                            case rel => exact ⟨k5 + 1, _, by omega, by go_num, rfl⟩
                            case measure => simp [intOf]; omega
                          · have hq2 : ((Ks k5).toList == id.toList) = false := ne_str hke
                            have hlook : ∀ n, Calls Try.prog 10 #[.pointer (some ⟨w1.heap.size + 1, 0, none⟩), .string (Ks k5)] (w7.drewN n) fun e w' => e = .returned (.pointer (F (Ks k5))) ∧ w' = w7.drewN n := fun n => by
                              have h := lookup10 (w7.drewN n) _ _ _ _ _ (Ks k5) z0 (HPR.out.drewN n)
                              rw [upd_other hke, upd_other hke] at h
                              exact h
                            have HO : Hid _ := hlook
                            clear hlook hke
                            have hneq := neq_same
                            go_wp2_with fail
                            go_quiet ((go_at_call 10; exact quiet_add (HO.out _)))
                            go_wp2
                            go_roundw
                            case rel => exact ⟨k5 + 1, _, by omega, by go_num, rfl⟩
                            case measure => simp [intOf]; omega
                        · go_wp2
                          go_ret
                          exact ⟨rfl, below_drewN' hB7 _⟩
end Go.Proofs.Qxb6627640a
