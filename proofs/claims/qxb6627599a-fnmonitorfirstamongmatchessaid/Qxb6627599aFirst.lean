import Derived.Test.Qxb6627599aCut
namespace Go.Proofs.Qxb6627599a
open Go.RowKit
set_option linter.unusedSimpArgs false

theorem Try.info36 : (Try.prog.info? 36).map (fun i => (i.zero, i.size, i.bytes)) = some (some (.agg #[.string ⟨#[]⟩, .string ⟨#[]⟩, .string ⟨#[]⟩, .string ⟨#[]⟩]), 4, 64) := by kernel_rfl

def Mon.cells (m : Mon) : List Value := [.string m.i, .string m.l, .string m.p, .string m.d]
def monCells (l : List Mon) : List Value := l.flatMap Mon.cells

theorem monCells_snoc (l : List Mon) (m : Mon) : monCells (l ++ [m]) = monCells l ++ m.cells := by simp [monCells]

theorem monCells_get (l : List Mon) (k : Nat) (hk : k < l.length) : (monCells l)[k * 4]? = some (.string (l.getD k Mon.zero).i) ∧ (monCells l)[k * 4 + 1]? = some (.string (l.getD k Mon.zero).l)
    ∧ (monCells l)[k * 4 + 2]? = some (.string (l.getD k Mon.zero).p) ∧ (monCells l)[k * 4 + 3]? = some (.string (l.getD k Mon.zero).d) := by
  induction l generalizing k with
  | nil => exact absurd hk (by simp)
  | cons m l ih =>
    have e : monCells (m :: l) = .string m.i :: .string m.l :: .string m.p :: .string m.d :: monCells l := by simp [monCells, Mon.cells]
    rw [e]
    cases k with
    | zero => simp
    | succ k =>
      have := ih k (by simp at hk; omega)
      rw [show (k + 1) * 4 = k * 4 + 4 by omega]
      simpa using this

/-- What has been gathered of the first k rows. -/
def Gath (M : Nat → Mon) (id : ByteArray) (k : Nat) (Ms : List Mon) : Prop :=
  Ms.length ≤ k ∧ (∀ m ∈ Ms, ∃ j, j < k ∧ m = M j) ∧
  ((Ms = [] ∧ ∀ j, j < k → (M j).i ≠ id) ∨ ∃ k0, k0 < k ∧ (M k0).i = id ∧ (∀ j, j < k0 → (M j).i ≠ id) ∧ ∃ tl, Ms = M k0 :: tl)

theorem Gath.miss {M : Nat → Mon} {id : ByteArray} {k : Nat} {Ms : List Mon} (h : Gath M id k Ms) (hne : (M k).i ≠ id) : Gath M id (k + 1) Ms := by
  obtain ⟨h1, h2, h3⟩ := h
  refine ⟨by omega, fun m hm => ?_, ?_⟩
  · obtain ⟨j, hj, e⟩ := h2 m hm
    exact ⟨j, by omega, e⟩
  · rcases h3 with ⟨e, h⟩ | ⟨k0, hk0, h⟩
    · exact Or.inl ⟨e, no_more h hne⟩
    · exact Or.inr ⟨k0, by omega, h⟩

theorem Gath.hit {M : Nat → Mon} {id : ByteArray} {k : Nat} {Ms : List Mon} (h : Gath M id k Ms) (he : (M k).i = id) : Gath M id (k + 1) (Ms ++ [M k]) := by
  obtain ⟨h1, h2, h3⟩ := h
  refine ⟨by simp; omega, fun m hm => ?_, ?_⟩
  · rcases List.mem_append.1 hm with hm | hm
    · obtain ⟨j, hj, e⟩ := h2 m hm
      exact ⟨j, by omega, e⟩
    · exact ⟨k, by omega, by simpa using hm⟩
  · rcases h3 with ⟨e, h⟩ | ⟨k0, hk0, e0, h, tl, e⟩
    · subst e
      exact Or.inr ⟨k, by omega, he, h, [], by simp⟩
    · subst e
      exact Or.inr ⟨k0, by omega, e0, h, tl ++ [M k], by simp⟩

theorem mons_of_owns {w : World} {base : Nat} {v : Value} {Ms : List Mon} (h : w.ownsRow base 36 4 v Ms.length (monCells Ms))
    (hz : ∀ m ∈ Ms, m.i.size ≤ maxLen ∧ m.l.size ≤ maxLen ∧ m.p.size ≤ maxLen ∧ m.d.size ≤ maxLen) :
    ∃ ao cap, v = .slice ao Ms.length cap ∧ (ao = none → Ms.length = 0) ∧ MonsAt w ao Ms.length fun j => Ms.getD j Mon.zero := by
  have h' := h
  obtain ⟨_, ⟨rfl, h2⟩ | ⟨g, cap, cur, rfl, hb, hg, hc, hm, hs, ht⟩⟩ := h
  · exact ⟨none, 0, by rw [h2], fun _ => h2, fun k hk => absurd hk (by omega)⟩
  · refine ⟨_, cap, rfl, (by intro e; cases e), fun k hk => ?_⟩
    obtain ⟨c0, c1, c2, c3⟩ := monCells_get Ms k hk
    have hzk := hz (Ms.getD k Mon.zero) (by rw [List.getD_eq_getElem?_getD, List.getElem?_eq_getElem hk]; exact List.getElem_mem hk)
    obtain ⟨z0, z1, z2, z3⟩ := hzk
    have hgl := (h'.lt g rfl).2
    refine ⟨g, 0, rfl, ?_, ?_, ?_, ?_, z0, z1, z2, z3, hgl⟩
    · rw [Nat.zero_add, h'.cellAt _ (by omega)]; exact c0
    · rw [Nat.zero_add, h'.cellAt _ (by omega)]; exact c1
    · rw [Nat.zero_add, h'.cellAt _ (by omega)]; exact c2
    · rw [Nat.zero_add, h'.cellAt _ (by omega)]; exact c3

set_option maxRecDepth 100000 in
set_option maxHeartbeats 4000000 in
theorem walk4 (pw id : ByteArray) (ao ao2 : Option Addr) (len cap len2 cap2 : Nat) (M : Nat → Mon) (w : World)
    (hpw : pw.size ≤ maxLen) (hid : id.size ≤ maxLen) (hlc : len ≤ cap) (hn : ao = none → cap = 0) (hl : cap * 64 ≤ 140737488355328) (hl2 : len2 * 80 ≤ 140737488355328) (hM : MonsAt w ao len M) (hS : SetsAt w ao2 len2) :
    Calls Try.prog 4 #[.string pw, .slice ao len cap, .slice ao2 len2 cap2, .string id] w fun e w' => e = .returned (.bool true) ∧ Below w.heap.size w w' := by
  obtain ⟨i0, hi, hz0, hz1, hz2⟩ := info_parts Try.info36
  go_enter Try.func4, Try.ntmps4
  go_wp2_with fail
  refine (bytes9 pw id ao ao2 len cap len2 cap2 M w hpw hid (by unfold maxLen; omega) (by unfold maxLen; omega) hM hS).mono ?_
  rintro e w1 ⟨⟨bo, rfl⟩, rfl⟩
  cases bo with
  | false =>
    go_wp2
    go_ret
    exact ⟨rfl, Below.refl _ _⟩
  | true =>
    go_wp2_with fail
    refine (within6 pw id ao ao2 len cap len2 cap2 M w1 hpw hid (by unfold maxLen; omega) (by unfold maxLen; omega) hM hS).mono ?_
    rintro e w2 ⟨⟨bo, rfl⟩, hb⟩
    cases bo with
    | false =>
      go_wp2
      go_ret
      exact ⟨rfl, hb⟩
    | true =>
      have hM2 := hM.below hb
      have hS2 := hS.below hb
      clear hM hS
      go_wp2_with fail
      refine (build7 pw ao ao2 len cap len2 cap2 M w2 (by intro h; have := hn h; omega) (by omega) hl2 hM2 hS2).mono ?_
      rintro e w3 ⟨⟨mo, so, sl, rfl, hG⟩, hb3⟩
      have hb03 : Below w1.heap.size w1 w3 := hb.trans (hb3.mono hb.size)
      have hM3 := hM2.below hb3
      clear hM2 hS2 hb hb3 hl2 hpw hid
      go_wp2_with fail
      go_loopw [10, 11] (fun v i wr => ∃ (k : Nat) (Ms : List Mon), k ≤ len ∧ i = .int .i64 k ∧ wr.ownsRow (w3.heap.size + 1) 36 4 v Ms.length (monCells Ms) ∧ Gath M id k Ms ∧
          Below (w3.heap.size + 1) (w3.alloc (Obj.cells #[Value.string pw, Value.slice mo len len, Value.slice so sl sl] 29)) wr) (fun _ i _ => len - (intOf i).toNat)
      case atStart => exact ⟨0, [], by omega, rfl, World.ownsRow_nil _ _ _ _, ⟨by simp, by simp, Or.inl ⟨rfl, fun j hj => absurd hj (by omega)⟩⟩, Below.refl _ _⟩
      case round =>
        obtain ⟨k, Ms, hk, rfl, hown, hgath, hbr⟩ := hrel
        have hMr := (hM3.alloc (Obj.cells #[Value.string pw, Value.slice mo len len, Value.slice so sl sl] 29)).below (by simpa using hbr)
        by_cases hlt : k < len
        · obtain ⟨b, off, rfl, c0, c1, c2, c3, z0, z1, z2, z3, hbl⟩ := hMr k hlt
          have hml := hgath.1
          clear hMr
          go_wp2_with (at_builtin; refine wpList_append_own _ rfl _ _ 22 rfl (w3.heap.size + 1) 36 i0 _ 4 64 Try.underlying22 hi hz0 hz1 hz2 rfl (by decide) _ _ _ rfl (hown.alloc _) ⟨wr.heap.size, 0, none⟩ 1 1 (M k).cells rfl rfl ?c1 ?c2 ?c3 ?c4 ?c5 ?_)
          · intro j u hj
            match j, hj with
            | 0, hj => simp [Mon.cells] at hj; subst hj; go_simp
            | 1, hj => simp [Mon.cells] at hj; subst hj; go_simp
            | 2, hj => simp [Mon.cells] at hj; subst hj; go_simp
            | 3, hj => simp [Mon.cells] at hj; subst hj; go_simp
          · intro u hu
            simp [Mon.cells] at hu
            rcases hu with rfl | rfl | rfl | rfl <;> rfl
          · unfold maxLen; omega
          · omega
          · have := hbr.size; simp at this ⊢; omega
          · intro v' w' hown' hgr _
            have he : ((M k).i.toList == id.toList) = true := by assumption
            have hown2 : w'.ownsRow (w3.heap.size + 1) 36 4 v' (Ms ++ [M k]).length (monCells (Ms ++ [M k])) := by
              rw [monCells_snoc]; simpa using hown'
            have hb2 : Below (w3.heap.size + 1) (w3.alloc (Obj.cells #[Value.string pw, Value.slice mo len len, Value.slice so sl sl] 29)) w' :=
              (hbr.alloc (by have := hbr.size; simpa using this) _).grown hgr (by have := hbr.size; simp at this ⊢; omega) (fun k hk => (hown.lt k hk).1)
            clear hown' hgr c0 c1 c2 c3
            go_wp2
            go_roundw
            case rel => exact ⟨k + 1, Ms ++ [M k], by omega, by go_num, hown2, hgath.hit (str_eq he), hb2⟩
            case measure => simp [intOf]; omega
          · have he : ((M k).i.toList == id.toList) = false := by assumption
            go_roundw
            case rel => exact ⟨k + 1, Ms, by omega, by go_num, hown, hgath.miss (str_ne he), hbr⟩
            case measure => simp [intOf]; omega
        · obtain rfl : k = len := by omega
          have hsz : ∀ m ∈ Ms, m.i.size ≤ maxLen ∧ m.l.size ≤ maxLen ∧ m.p.size ≤ maxLen ∧ m.d.size ≤ maxLen := by
            intro m hm
            obtain ⟨j, hj, rfl⟩ := hgath.2.1 m hm
            obtain ⟨_, _, _, _, _, _, _, z0, z1, z2, z3, _⟩ := hMr j hj
            exact ⟨z0, z1, z2, z3⟩
          obtain ⟨ao', cap', rfl, hn', hMs⟩ := mons_of_owns hown hsz
          have hml := hgath.1
          have hgr2 := hgath.2.2
          have HG : Hid _ := hgr2
          have G4 := (Grp.mk' w3 pw mo so k sl).below (by simpa using hbr)
          have hGm4 := (hG.alloc (Obj.cells #[Value.string pw, Value.slice mo k k, Value.slice so sl sl] 29)).below (by simpa using hbr)
          have hb04 : Below w1.heap.size w1 wr := (hb03.alloc hb03.size _).trans (hbr.mono (by have := hb03.size; omega))
          clear hMr hM3 hown hsz hgath hgr2 hbr hG hb03
          go_wp2_with fail
          refine (build7 ⟨#[]⟩ ao' none Ms.length cap' 0 0 (fun j => Ms.getD j Mon.zero) wr hn' (by omega) (by omega) hMs (fun k hk => absurd hk (by omega))).mono ?_
          rintro e w5 ⟨⟨mo5, so5, sl5, rfl, hK⟩, hb5⟩
          have G5 := G4.below hb5
          have hGm5 := hGm4.below hb5
          have hMs5 := hMs.below hb5
          have hb05 : Below w1.heap.size w1 w5 := hb04.trans (hb5.mono hb04.size)
          clear G4 hGm4 hMs hb5 hb04
          have x0 := fun o => (G5.alloc o).c0
          have x1 := fun o => (G5.alloc o).c1
          have x2 := fun o => (G5.alloc o).c2
          go_wp2_with fail
          refine (monitor8 pw id mo so k k sl sl M _ (by unfold maxLen; omega) (hGm5.alloc _)).mono ?_
          rintro e w6 ⟨⟨⟨mi, ml, mp, md⟩, fo, rfl, hfind⟩, hb6⟩
          simp only [Mon.val]
          clear x0 x1 x2
          have K6 := (Grp.mk' w5 ⟨#[]⟩ mo5 so5 Ms.length sl5).below hb6
          have hKm6 := (hK.alloc _).below hb6
          have hMs6 := (hMs5.alloc _).below hb6
          have hb06 : Below w1.heap.size w1 w6 := (hb05.alloc hb05.size _).trans (hb6.mono (by have := hb05.size; simp; omega))
          clear G5 hGm5 hMs5 hb05 hb6 hK
          have x0 := fun o => (K6.alloc o).c0
          have x1 := fun o => (K6.alloc o).c1
          have x2 := fun o => (K6.alloc o).c2
          go_wp2_with fail
          refine (monitor8 ⟨#[]⟩ id mo5 so5 Ms.length Ms.length sl5 sl5 (fun j => Ms.getD j Mon.zero) _ (by unfold maxLen; omega) (hKm6.alloc _)).mono ?_
          rintro e w7 ⟨⟨⟨bi, bl, bp, bd⟩, bfo, rfl, hbfind⟩, hb7⟩
          simp only [Mon.val]
          clear x0 x1 x2
          have hMs7 := (hMs6.alloc _).below hb7
          have hb07 : Below w1.heap.size w1 w7 := (hb06.alloc hb06.size _).trans (hb7.mono (by have := hb06.size; simp; omega))
          have W7 := (MonC.mk' w6 mi ml mp md).below hb7
          clear K6 hKm6 hMs6 hb06 hb7
          have y0 := fun o => (W7.alloc o).c0
          have y1 := fun o => (W7.alloc o).c1
          have y2 := fun o => (W7.alloc o).c2
          have y3 := fun o => (W7.alloc o).c3
          rcases HG.out with ⟨rfl, hno⟩ | ⟨k0, hk0, e0, hno, tl, rfl⟩
          · obtain ⟨e1, e2⟩ := hfind.none hno
            obtain ⟨e3, e4⟩ := hbfind.none (fun j hj => absurd hj (by simp))
            simp only [Mon.mk.injEq, Mon.zero] at e2 e4
            clear HG hno hfind hbfind hMs7 W7
            obtain ⟨rfl, rfl, rfl, rfl⟩ := e2
            obtain ⟨rfl, rfl, rfl, rfl⟩ := e4
            subst e1
            subst e3
            go_wp2
            go_ret
            exact ⟨rfl, hb07.alloc hb07.size _⟩
          · obtain ⟨e1, e2⟩ := hfind.some hk0 e0 hno
            obtain ⟨e3, e4⟩ := hbfind.some (k := 0) (by simp) (by simpa using e0) (fun j hj => absurd hj (by omega))
            have e5 : (⟨bi, bl, bp, bd⟩ : Mon) = ⟨mi, ml, mp, md⟩ := e4.trans (by simpa using e2.symm)
            clear e4 hfind hbfind HG hno
            simp only [Mon.mk.injEq] at e5
            obtain ⟨rfl, rfl, rfl, rfl⟩ := e5
            subst e1
            subst e3
            obtain ⟨gb, goff, ea, q0, q1, q2, q3, _, _, _, _, hgb⟩ := hMs7 0 (by simp)
            simp only [List.getD_cons_zero, ← e2, Nat.zero_mul, Nat.add_zero] at q0 q1 q2 q3
            subst ea
            have p0 := fun o => (World.cell?_alloc_past (w := w7) o _ _ hgb).trans q0
            have p1 := fun o => (World.cell?_alloc_past (w := w7) o _ _ hgb).trans q1
            have p2 := fun o => (World.cell?_alloc_past (w := w7) o _ _ hgb).trans q2
            have p3 := fun o => (World.cell?_alloc_past (w := w7) o _ _ hgb).trans q3
            have t0 := fun o a b c => ((((W7.alloc o).alloc a).alloc b).alloc c).c0
            have t1 := fun o a b c => ((((W7.alloc o).alloc a).alloc b).alloc c).c1
            have t2 := fun o a b c => ((((W7.alloc o).alloc a).alloc b).alloc c).c2
            have t3 := fun o a b c => ((((W7.alloc o).alloc a).alloc b).alloc c).c3
            clear W7 hMs7 e2 q0 q1 q2 q3 y0 y1 y2 y3 hn'
            go_wp2_with (go_at_call 10; refine (asMonitor10 _ _ _ _ _).mono ?_; rintro e w9 ⟨rfl, rfl⟩)
            go_ret
            exact ⟨rfl, (((hb07.alloc hb07.size _).alloc (by have := hb07.size; simp; omega) _).alloc (by have := hb07.size; simp; omega) _).alloc (by have := hb07.size; simp; omega) _⟩
end Go.Proofs.Qxb6627599a
