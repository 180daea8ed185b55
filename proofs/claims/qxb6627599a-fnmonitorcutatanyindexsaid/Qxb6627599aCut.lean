import Derived.Test.Qxb6627599aWithin
import Derived.Test.Qxb6627599aMonitor
import Derived.Test.Qxb6627599aBuild
namespace Go.Proofs.Qxb6627599a
open Go.RowKit
set_option linter.unusedSimpArgs false

theorem MonsAt.below {w w' : World} {ao : Option Addr} {len : Nat} {M : Nat → Mon} (h : MonsAt w ao len M) (hb : Below w.heap.size w w') : MonsAt w' ao len M := by
  intro k hk
  obtain ⟨b, off, e, c0, c1, c2, c3, z0, z1, z2, z3, hbl⟩ := h k hk
  exact ⟨b, off, e, (hb.cell (p := ⟨b, off + k * 4, none⟩) hbl).trans c0, (hb.cell (p := ⟨b, off + k * 4 + 1, none⟩) hbl).trans c1, (hb.cell (p := ⟨b, off + k * 4 + 2, none⟩) hbl).trans c2,
    (hb.cell (p := ⟨b, off + k * 4 + 3, none⟩) hbl).trans c3, z0, z1, z2, z3, Nat.lt_of_lt_of_le hbl hb.size⟩

theorem SetsAt.below {w w' : World} {ao : Option Addr} {len : Nat} (h : SetsAt w ao len) (hb : Below w.heap.size w w') : SetsAt w' ao len := by
  intro k hk
  obtain ⟨b, off, e, s0, s1, s6, n2, n3, n4, pa, c0, c1, c2, c3, c4, c5, c6, z0, z1, z6, hbl, hpa⟩ := h k hk
  refine ⟨b, off, e, s0, s1, s6, n2, n3, n4, pa, (hb.cell (p := ⟨b, off + k * 7, none⟩) hbl).trans c0, (hb.cell (p := ⟨b, off + k * 7 + 1, none⟩) hbl).trans c1, (hb.cell (p := ⟨b, off + k * 7 + 2, none⟩) hbl).trans c2,
    (hb.cell (p := ⟨b, off + k * 7 + 3, none⟩) hbl).trans c3, (hb.cell (p := ⟨b, off + k * 7 + 4, none⟩) hbl).trans c4, (hb.cell (p := ⟨b, off + k * 7 + 5, none⟩) hbl).trans c5,
    (hb.cell (p := ⟨b, off + k * 7 + 6, none⟩) hbl).trans c6, z0, z1, z6, Nat.lt_of_lt_of_le hbl hb.size, ?_⟩
  intro a ha
  obtain ⟨h1, h2, x, h3⟩ := hpa a ha
  refine ⟨h1, Nat.lt_of_lt_of_le h2 hb.size, x, ?_⟩
  obtain ⟨ab, ao, asp⟩ := a
  simp only at h1 h2
  subst h1
  exact (hb.cell (p := ⟨ab, ao, none⟩) h2).trans h3

theorem MonsAt.front {w : World} {ao : Option Addr} {len c : Nat} {M : Nat → Mon} (h : MonsAt w ao len M) (hc : c ≤ len) : MonsAt w ao c M := fun k hk => h k (by omega)

theorem MonsAt.back {w : World} {b off len c : Nat} {M : Nat → Mon} (h : MonsAt w (some ⟨b, off, none⟩) len M) : MonsAt w (some ⟨b, off + c * 4, none⟩) (len - c) fun j => M (c + j) := by
  intro k hk
  obtain ⟨b', off', e, c0, c1, c2, c3, z0, z1, z2, z3, hbl⟩ := h (c + k) (by omega)
  injection e with e
  injection e with e1 e2
  subst e1
  subst e2
  have e : off + c * 4 + k * 4 = off + (c + k) * 4 := by omega
  exact ⟨b, off + c * 4, rfl, by rw [e]; exact c0, by rw [e]; exact c1, by rw [e]; exact c2, by rw [e]; exact c3, z0, z1, z2, z3, hbl⟩

theorem Addr.add_mid' (b o j : Nat) : (⟨b, o, none⟩ : Addr).add j = ⟨b, o + j, none⟩ := by unfold Addr.add; split <;> simp_all

theorem MonsAt.back' {w : World} {ad : Addr} {len c : Nat} {M : Nat → Mon} (h : MonsAt w (some ad) len M) : MonsAt w (some (ad.add (c * 4))) (len - c) fun j => M (c + j) := by
  by_cases e : 0 < len - c
  · obtain ⟨b', off', e, _⟩ := h 0 (by omega)
    injection e with e
    subst e
    rw [Addr.add_mid']
    exact h.back
  · exact fun k hk => absurd hk (by omega)

theorem MonsAt.alloc {w : World} {ao : Option Addr} {len : Nat} {M : Nat → Mon} (h : MonsAt w ao len M) (o : Obj) : MonsAt (w.alloc o) ao len M := h.below ((Below.refl _ _).alloc (Nat.le_refl _) o)

/-- A Group lies in block a. -/
structure Grp (w : World) (a : Nat) (pw : ByteArray) (mo : Option Addr) (len : Nat) (so : Option Addr) (sl : Nat) : Prop where
  lt : a < w.heap.size
  c0 : w.cell? ⟨a, 0, none⟩ = some (.string pw)
  c1 : w.cell? ⟨a, 1, none⟩ = some (.slice mo len len)
  c2 : w.cell? ⟨a, 2, none⟩ = some (.slice so sl sl)

theorem Grp.below {w w' : World} {a : Nat} {pw : ByteArray} {mo so : Option Addr} {len sl : Nat} (h : Grp w a pw mo len so sl) (hb : Below w.heap.size w w') : Grp w' a pw mo len so sl :=
  ⟨Nat.lt_of_lt_of_le h.lt hb.size, (hb.cell (p := ⟨a, 0, none⟩) h.lt).trans h.c0, (hb.cell (p := ⟨a, 1, none⟩) h.lt).trans h.c1, (hb.cell (p := ⟨a, 2, none⟩) h.lt).trans h.c2⟩

theorem Grp.alloc {w : World} {a : Nat} {pw : ByteArray} {mo so : Option Addr} {len sl : Nat} (h : Grp w a pw mo len so sl) (o : Obj) : Grp (w.alloc o) a pw mo len so sl := h.below ((Below.refl _ _).alloc (Nat.le_refl _) o)

theorem Grp.mk' (w : World) (pw : ByteArray) (mo so : Option Addr) (len sl : Nat) : Grp (w.alloc (.cells #[.string pw, .slice mo len len, .slice so sl sl] 29)) w.heap.size pw mo len so sl :=
  ⟨by simp, by go_simp, by go_simp, by go_simp⟩

/-- A Monitor lies in block a. -/
structure MonC (w : World) (a : Nat) (i l p d : ByteArray) : Prop where
  lt : a < w.heap.size
  c0 : w.cell? ⟨a, 0, none⟩ = some (.string i)
  c1 : w.cell? ⟨a, 1, none⟩ = some (.string l)
  c2 : w.cell? ⟨a, 2, none⟩ = some (.string p)
  c3 : w.cell? ⟨a, 3, none⟩ = some (.string d)

theorem MonC.below {w w' : World} {a : Nat} {i l p d : ByteArray} (h : MonC w a i l p d) (hb : Below w.heap.size w w') : MonC w' a i l p d :=
  ⟨Nat.lt_of_lt_of_le h.lt hb.size, (hb.cell (p := ⟨a, 0, none⟩) h.lt).trans h.c0, (hb.cell (p := ⟨a, 1, none⟩) h.lt).trans h.c1, (hb.cell (p := ⟨a, 2, none⟩) h.lt).trans h.c2, (hb.cell (p := ⟨a, 3, none⟩) h.lt).trans h.c3⟩

theorem MonC.alloc {w : World} {a : Nat} {i l p d : ByteArray} (h : MonC w a i l p d) (o : Obj) : MonC (w.alloc o) a i l p d := h.below ((Below.refl _ _).alloc (Nat.le_refl _) o)

theorem MonC.mk' (w : World) (i l p d : ByteArray) : MonC (w.alloc (.cells #[.string i, .string l, .string p, .string d] 32)) w.heap.size i l p d :=
  ⟨by simp, by go_simp, by go_simp, by go_simp, by go_simp⟩

theorem ne_str {a b : ByteArray} (h : a ≠ b) : (a.toList == b.toList) = false := by
  cases e : (a.toList == b.toList) with
  | false => rfl
  | true => exact absurd (str_eq e) h

theorem build7 (pw : ByteArray) (ao ao2 : Option Addr) (len cap len2 cap2 : Nat) (M : Nat → Mon) (w : World)
    (hn : ao = none → len = 0) (hl : len * 64 ≤ 140737488355328) (hl2 : len2 * 80 ≤ 140737488355328) (hM : MonsAt w ao len M) (hS : SetsAt w ao2 len2) :
    Calls Try.prog 7 #[.string pw, .slice ao len cap, .slice ao2 len2 cap2] w fun e w' =>
      (∃ mo so sl, e = .returned (.agg #[.string pw, .slice mo len len, .slice so sl sl]) ∧ MonsAt w' mo len M) ∧ Below w.heap.size w w' := by
  cases ao with
  | none => obtain rfl := hn rfl; exact build7_none pw ao2 cap len2 cap2 M w hl2 hS
  | some ad => exact build7_some pw ad ao2 len cap len2 cap2 M w hl hl2 hM hS

/-! ### The plain law -/
theorem Finds.none {M : Nat → Mon} {len : Nat} {id : ByteArray} {m : Mon} {fo : Bool} (h : Finds M len id m fo) (hno : ∀ j, j < len → (M j).i ≠ id) : fo = false ∧ m = Mon.zero := by
  rcases h with ⟨_, k, hk, _, e, _⟩ | ⟨h1, h2, _⟩
  · exact absurd e (hno k hk)
  · exact ⟨h1, h2⟩

theorem Finds.some {M : Nat → Mon} {len : Nat} {id : ByteArray} {m : Mon} {fo : Bool} (h : Finds M len id m fo) {k : Nat} (hk : k < len) (he : (M k).i = id) (hno : ∀ j, j < k → (M j).i ≠ id) : fo = true ∧ m = M k := by
  rcases h with ⟨h1, k', hk', e, e', hno'⟩ | ⟨_, _, h3⟩
  · refine ⟨h1, ?_⟩
    have : k' = k := by
      by_cases h : k' < k
      · exact absurd e' (hno k' h)
      · by_cases h' : k < k'
        · exact absurd he (hno' k h')
        · omega
    rw [e, this]
  · exact absurd he (h3 k hk)

theorem first_match (M : Nat → Mon) (len : Nat) (id : ByteArray) : (∃ k, k < len ∧ (M k).i = id ∧ ∀ j, j < k → (M j).i ≠ id) ∨ ∀ j, j < len → (M j).i ≠ id := by
  induction len with
  | zero => exact Or.inr fun j hj => absurd hj (by omega)
  | succ n ih =>
    rcases ih with ⟨k, hk, h⟩ | h
    · exact Or.inl ⟨k, by omega, h⟩
    · by_cases e : (M n).i = id
      · exact Or.inl ⟨n, by omega, e, h⟩
      · exact Or.inr (no_more h e)

set_option maxRecDepth 100000 in
set_option maxHeartbeats 4000000 in
theorem walk3 (pw id : ByteArray) (ao ao2 : Option Addr) (len cap len2 cap2 : Nat) (M : Nat → Mon) (cut : Int) (w : World)
    (hpw : pw.size ≤ maxLen) (hid : id.size ≤ maxLen) (hlc : len ≤ cap) (hn : ao = none → cap = 0) (hl : cap * 64 ≤ 140737488355328) (hl2 : len2 * 80 ≤ 140737488355328) (hM : MonsAt w ao len M) (hS : SetsAt w ao2 len2) :
    Calls Try.prog 3 #[.string pw, .slice ao len cap, .slice ao2 len2 cap2, .string id, .int .i64 cut] w fun e w' => e = .returned (.bool true) ∧ Below w.heap.size w w' := by
  go_enter Try.func3, Try.ntmps3
  go_wp2_with fail
  refine (bytes5 pw id ao ao2 len cap len2 cap2 M cut w hpw hid (by unfold maxLen; omega) (by unfold maxLen; omega) hM hS).mono ?_
  rintro e w1 ⟨⟨bo, rfl⟩, rfl⟩
  cases bo with
  | false =>
    go_wp2
    go_ret
    exact ⟨rfl, Below.refl _ _⟩
  | true =>
    go_wp2_with fail
    refine (within6 pw id ao ao2 len cap len2 cap2 M w1 hpw hid (by unfold maxLen; omega) (by unfold maxLen; omega) hM hS).mono ?_
    rintro e w2 ⟨⟨bo, rfl⟩, hb⟩
    cases bo with
    | false =>
      go_wp2
      go_ret
      exact ⟨rfl, hb⟩
    | true =>
      by_cases h0 : cut < 0
      · go_wp2
        go_ret
        exact ⟨rfl, hb⟩
      obtain ⟨c, rfl⟩ := Int.eq_ofNat_of_zero_le (Int.not_lt.1 h0)
      by_cases h1 : len < c
      · go_wp2
        go_ret
        exact ⟨rfl, hb⟩
      have hM2 := hM.below hb
      have hS2 := hS.below hb
      clear hM hS
      go_wp2_with fail
      refine (build7 pw ao ao2 len cap len2 cap2 M w2 (by intro h; have := hn h; omega) (by omega) hl2 hM2 hS2).mono ?_
      rintro e w3 ⟨⟨mo, so, sl, rfl, hG⟩, hb3⟩
      have hb03 : Below w1.heap.size w1 w3 := hb.trans (hb3.mono hb.size)
      have hM3 := hM2.below hb3
      have hS3 := hS2.below hb3
      clear hM2 hS2 hb hb3
      have hMa := hM3.below ((Below.refl _ _).alloc (Nat.le_refl _) (Obj.cells #[Value.string pw, Value.slice mo len len, Value.slice so sl sl] 29))
      have hSa := hS3.below ((Below.refl _ _).alloc (Nat.le_refl _) (Obj.cells #[Value.string pw, Value.slice mo len len, Value.slice so sl sl] 29))
      clear hM3 hS3
      have hfm := first_match M len id
      have HFM : Hid _ := hfm
      clear hfm
      rcases ao with _ | ⟨b, off, sp⟩
      · obtain rfl : cap = 0 := hn rfl
        obtain rfl : len = 0 := by omega
        obtain rfl : c = 0 := by omega
        go_wp2_with fail
        refine (build7 pw none ao2 0 0 len2 cap2 M _ (by intro h; rfl) (by omega) hl2 (hMa.front (by omega)) hSa).mono ?_
        rintro e w4 ⟨⟨mo4, so4, sl4, rfl, hF⟩, hb4⟩
        have hM4 := fun o => (hMa.below hb4).below ((Below.refl _ _).alloc (Nat.le_refl _) o)
        have hS4 := fun o => (hSa.below hb4).below ((Below.refl _ _).alloc (Nat.le_refl _) o)
        have hG4 := (hG.below ((Below.refl _ _).alloc (Nat.le_refl _) (Obj.cells #[Value.string pw, Value.slice mo 0 0, Value.slice so sl sl] 29))).below hb4
        have hz4 : w3.heap.size + 1 ≤ w4.heap.size := by have := hb4.size; simpa using this
        have g0 : w4.cell? ⟨w3.heap.size, 0, none⟩ = some (.string pw) := (hb4.cell (by simp)).trans (by go_simp)
        have g1 : w4.cell? ⟨w3.heap.size, 1, none⟩ = some (.slice mo 0 0) := (hb4.cell (by simp)).trans (by go_simp)
        have g2 : w4.cell? ⟨w3.heap.size, 2, none⟩ = some (.slice so sl sl) := (hb4.cell (by simp)).trans (by go_simp)
        have hb04 : Below w1.heap.size w1 w4 := (hb03.alloc hb03.size _).trans (hb4.mono (by have := hb03.size; simp; omega))
        clear hMa hSa hG hb4 hb03
        go_wp2_with fail
        refine (build7 pw none ao2 0 0 len2 cap2 (fun j => M (0 + j)) _ (by intro h; rfl) (by omega) hl2 (fun k hk => absurd hk (by omega)) (hS4 _)).mono ?_
        rintro e w5 ⟨⟨mo5, so5, sl5, rfl, hK⟩, hb5⟩
        have G5 := ((Grp.mk hz4 g0 g1 g2 : Grp w4 w3.heap.size pw mo 0 so sl).alloc _).below hb5
        have F5 := (Grp.mk' w4 pw mo4 so4 0 sl4).below hb5
        have hz5 : w4.heap.size + 1 ≤ w5.heap.size := by have := hb5.size; simpa using this
        have hGm := (hG4.alloc _).below hb5
        have hFm := (hF.alloc _).below hb5
        have hM5 := (hM4 _).below hb5
        have hb05 : Below w1.heap.size w1 w5 := (hb04.alloc hb04.size _).trans (hb5.mono (by have := hb04.size; simp; omega))
        clear hM4 hS4 hG4 hF g0 g1 g2 hz4 hb5 hb04 hl2 hpw hid
        have x0 := fun o => (G5.alloc o).c0
        have x1 := fun o => (G5.alloc o).c1
        have x2 := fun o => (G5.alloc o).c2
        go_wp2_with fail
        refine (monitor8 pw id mo so 0 0 sl sl M _ (by unfold maxLen; omega) (hGm.alloc _)).mono ?_
        rintro e w6 ⟨⟨⟨mi, ml, mp, md⟩, fo, rfl, hfind⟩, hb6⟩
        simp only [Mon.val]
        clear x0 x1 x2
        have F6 := (F5.alloc _).below hb6
        have K6 := (Grp.mk' w5 pw mo5 so5 0 sl5).below hb6
        have hFm6 := (hFm.alloc _).below hb6
        have hKm6 := (hK.alloc _).below hb6
        have hM6 := (hM5.alloc _).below hb6
        have hb06 : Below w1.heap.size w1 w6 := (hb05.alloc hb05.size _).trans (hb6.mono (by have := hb05.size; simp; omega))
        clear G5 F5 hGm hFm hM5 hb05 hb6 hK hz5
        have x0 := fun o => (F6.alloc o).c0
        have x1 := fun o => (F6.alloc o).c1
        have x2 := fun o => (F6.alloc o).c2
        go_wp2_with fail
        refine (monitor8 pw id mo4 so4 0 0 sl4 sl4 M _ (by unfold maxLen; omega) (hFm6.alloc _)).mono ?_
        rintro e w7 ⟨⟨⟨fi, fl, fp, fd⟩, ffo, rfl, hffind⟩, hb7⟩
        simp only [Mon.val]
        clear x0 x1 x2
        have K7 := (K6.alloc _).below hb7
        have hKm7 := (hKm6.alloc _).below hb7
        have hM7 := (hM6.alloc _).below hb7
        have hb07 : Below w1.heap.size w1 w7 := (hb06.alloc hb06.size _).trans (hb7.mono (by have := hb06.size; simp; omega))
        have W7 := (MonC.mk' w6 mi ml mp md).below hb7
        clear F6 K6 hFm6 hKm6 hM6 hb06 hb7
        have x0 := fun o => (K7.alloc o).c0
        have x1 := fun o => (K7.alloc o).c1
        have x2 := fun o => (K7.alloc o).c2
        go_wp2_with fail
        refine (monitor8 pw id mo5 so5 0 0 sl5 sl5 (fun j => M (0 + j)) _ (by unfold maxLen; omega) (hKm7.alloc _)).mono ?_
        rintro e w8 ⟨⟨⟨bi, bl, bp, bd⟩, bfo, rfl, hbfind⟩, hb8⟩
        simp only [Mon.val]
        clear x0 x1 x2
        have hM8 := (hM7.alloc _).below hb8
        have hb08 : Below w1.heap.size w1 w8 := (hb07.alloc hb07.size _).trans (hb8.mono (by have := hb07.size; simp; omega))
        have W8 := (W7.alloc _).below hb8
        have V8 := (MonC.mk' w7 fi fl fp fd).below hb8
        clear K7 hKm7 hM7 hb07 hb8 W7
        have hM9 := fun o => hM8.alloc o
        have HF : Hid (Finds M 0 id ⟨mi, ml, mp, md⟩ fo ∧ Finds M 0 id ⟨fi, fl, fp, fd⟩ ffo ∧ Finds (fun j => M (0 + j)) 0 id ⟨bi, bl, bp, bd⟩ bfo) := ⟨hfind, hffind, hbfind⟩
        clear hfind hffind hbfind hM8
        rcases HFM.out with ⟨k0, hk0, he0, hno0⟩ | hno
        · exact absurd hk0 (by omega)
        · obtain ⟨e1, e2⟩ := HF.out.1.none hno
          obtain ⟨e3, e4⟩ := HF.out.2.1.none (fun j hj => hno j (by omega))
          obtain ⟨e5, e6⟩ := HF.out.2.2.none (fun j hj => hno (0 + j) (by omega))
          have HNO : Hid _ := hno
          clear HF HFM hno
          simp only [Mon.mk.injEq, Mon.zero] at e2 e4 e6
          obtain ⟨rfl, rfl, rfl, rfl⟩ := e2
          obtain ⟨rfl, rfl, rfl, rfl⟩ := e4
          obtain ⟨rfl, rfl, rfl, rfl⟩ := e6
          subst e1
          subst e3
          subst e5
          have y0 := fun o => (W8.alloc o).c0
          have y1 := fun o => (W8.alloc o).c1
          have y2 := fun o => (W8.alloc o).c2
          have y3 := fun o => (W8.alloc o).c3
          have v0 := fun o => (V8.alloc o).c0
          have v1 := fun o => (V8.alloc o).c1
          have v2 := fun o => (V8.alloc o).c2
          have v3 := fun o => (V8.alloc o).c3
          clear W8 V8
          go_wp2
          go_loop [20, 21] (fun p i => ∃ k : Nat, k ≤ 0 ∧ p = .bool false ∧ i = .int .i64 k ∧ ∀ j, j < k → (M j).i ≠ id) (fun _ i => 0 - (intOf i).toNat)
          case atStart => exact ⟨0, by omega, rfl, rfl, fun j hj => absurd hj (by omega)⟩
          case round =>
            obtain ⟨k, hk, rfl, rfl, hnk⟩ := hrel
            have HN : Hid _ := hnk
            clear hnk

            by_cases hlt : k < 0
            · exact absurd hlt (by omega)
            · clear hM9
              go_wp2
              go_ret
              exact ⟨rfl, hb08.alloc hb08.size _⟩
      · go_wp2_with fail
        refine (build7 pw _ ao2 c cap len2 cap2 M _ (by intro h; cases h) (by omega) hl2 (hMa.front (by omega)) hSa).mono ?_
        rintro e w4 ⟨⟨mo4, so4, sl4, rfl, hF⟩, hb4⟩
        have hM4 := fun o => (hMa.below hb4).below ((Below.refl _ _).alloc (Nat.le_refl _) o)
        have hS4 := fun o => (hSa.below hb4).below ((Below.refl _ _).alloc (Nat.le_refl _) o)
        have hG4 := (hG.below ((Below.refl _ _).alloc (Nat.le_refl _) (Obj.cells #[Value.string pw, Value.slice mo len len, Value.slice so sl sl] 29))).below hb4
        have hz4 : w3.heap.size + 1 ≤ w4.heap.size := by have := hb4.size; simpa using this
        have g0 : w4.cell? ⟨w3.heap.size, 0, none⟩ = some (.string pw) := (hb4.cell (by simp)).trans (by go_simp)
        have g1 : w4.cell? ⟨w3.heap.size, 1, none⟩ = some (.slice mo len len) := (hb4.cell (by simp)).trans (by go_simp)
        have g2 : w4.cell? ⟨w3.heap.size, 2, none⟩ = some (.slice so sl sl) := (hb4.cell (by simp)).trans (by go_simp)
        have hb04 : Below w1.heap.size w1 w4 := (hb03.alloc hb03.size _).trans (hb4.mono (by have := hb03.size; simp; omega))
        clear hMa hSa hG hb4 hb03
        by_cases hcc : cap = c
        · subst hcc
          obtain rfl : len = cap := by omega
          go_wp2_with fail
          refine (build7 pw _ ao2 0 0 len2 cap2 (fun j => M (len + j)) _ (by intro h; cases h) (by omega) hl2 (fun k hk => absurd hk (by omega)) (hS4 _)).mono ?_
          rintro e w5 ⟨⟨mo5, so5, sl5, rfl, hK⟩, hb5⟩
          have G5 := ((Grp.mk hz4 g0 g1 g2 : Grp w4 w3.heap.size pw mo len so sl).alloc _).below hb5
          have F5 := (Grp.mk' w4 pw mo4 so4 len sl4).below hb5
          have hz5 : w4.heap.size + 1 ≤ w5.heap.size := by have := hb5.size; simpa using this
          have hGm := (hG4.alloc _).below hb5
          have hFm := (hF.alloc _).below hb5
          have hM5 := (hM4 _).below hb5
          have hb05 : Below w1.heap.size w1 w5 := (hb04.alloc hb04.size _).trans (hb5.mono (by have := hb04.size; simp; omega))
          clear hM4 hS4 hG4 hF g0 g1 g2 hz4 hb5 hb04 hl2 hpw hid
          have x0 := fun o => (G5.alloc o).c0
          have x1 := fun o => (G5.alloc o).c1
          have x2 := fun o => (G5.alloc o).c2
          go_wp2_with fail
          refine (monitor8 pw id mo so len len sl sl M _ (by unfold maxLen; omega) (hGm.alloc _)).mono ?_
          rintro e w6 ⟨⟨⟨mi, ml, mp, md⟩, fo, rfl, hfind⟩, hb6⟩
          simp only [Mon.val]
          clear x0 x1 x2
          have F6 := (F5.alloc _).below hb6
          have K6 := (Grp.mk' w5 pw mo5 so5 0 sl5).below hb6
          have hFm6 := (hFm.alloc _).below hb6
          have hKm6 := (hK.alloc _).below hb6
          have hM6 := (hM5.alloc _).below hb6
          have hb06 : Below w1.heap.size w1 w6 := (hb05.alloc hb05.size _).trans (hb6.mono (by have := hb05.size; simp; omega))
          clear G5 F5 hGm hFm hM5 hb05 hb6 hK hz5
          have x0 := fun o => (F6.alloc o).c0
          have x1 := fun o => (F6.alloc o).c1
          have x2 := fun o => (F6.alloc o).c2
          go_wp2_with fail
          refine (monitor8 pw id mo4 so4 len len sl4 sl4 M _ (by unfold maxLen; omega) (hFm6.alloc _)).mono ?_
          rintro e w7 ⟨⟨⟨fi, fl, fp, fd⟩, ffo, rfl, hffind⟩, hb7⟩
          simp only [Mon.val]
          clear x0 x1 x2
          have K7 := (K6.alloc _).below hb7
          have hKm7 := (hKm6.alloc _).below hb7
          have hM7 := (hM6.alloc _).below hb7
          have hb07 : Below w1.heap.size w1 w7 := (hb06.alloc hb06.size _).trans (hb7.mono (by have := hb06.size; simp; omega))
          have W7 := (MonC.mk' w6 mi ml mp md).below hb7
          clear F6 K6 hFm6 hKm6 hM6 hb06 hb7
          have x0 := fun o => (K7.alloc o).c0
          have x1 := fun o => (K7.alloc o).c1
          have x2 := fun o => (K7.alloc o).c2
          go_wp2_with fail
          refine (monitor8 pw id mo5 so5 0 0 sl5 sl5 (fun j => M (len + j)) _ (by unfold maxLen; omega) (hKm7.alloc _)).mono ?_
          rintro e w8 ⟨⟨⟨bi, bl, bp, bd⟩, bfo, rfl, hbfind⟩, hb8⟩
          simp only [Mon.val]
          clear x0 x1 x2
          have hM8 := (hM7.alloc _).below hb8
          have hb08 : Below w1.heap.size w1 w8 := (hb07.alloc hb07.size _).trans (hb8.mono (by have := hb07.size; simp; omega))
          have W8 := (W7.alloc _).below hb8
          have V8 := (MonC.mk' w7 fi fl fp fd).below hb8
          clear K7 hKm7 hM7 hb07 hb8 W7
          have hM9 := fun o => hM8.alloc o
          have HF : Hid (Finds M len id ⟨mi, ml, mp, md⟩ fo ∧ Finds M len id ⟨fi, fl, fp, fd⟩ ffo ∧ Finds (fun j => M (len + j)) 0 id ⟨bi, bl, bp, bd⟩ bfo) := ⟨hfind, hffind, hbfind⟩
          clear hfind hffind hbfind hM8
          rcases HFM.out with ⟨k0, hk0, he0, hno0⟩ | hno
          · obtain ⟨e1, e2⟩ := HF.out.1.some hk0 he0 hno0
            have HE0 : Hid ((M k0).i = id) := he0
            have emi : mi = id := (congrArg Mon.i e2).trans he0
            have HF' : Hid _ := HF.out.2
            clear HF HFM
            by_cases hc : k0 < len
            · obtain ⟨e3, e4⟩ := HF'.out.1.some hc he0 hno0
              have e5 := e4.trans e2.symm
              clear e2 e4 HF' he0 hno0
              simp only [Mon.mk.injEq] at e5
              obtain ⟨rfl, rfl, rfl, rfl⟩ := e5
              subst e1
              subst e3
              subst emi
              have y0 := fun o => (W8.alloc o).c0
              have y1 := fun o => (W8.alloc o).c1
              have y2 := fun o => (W8.alloc o).c2
              have y3 := fun o => (W8.alloc o).c3
              have v0 := fun o => (V8.alloc o).c0
              have v1 := fun o => (V8.alloc o).c1
              have v2 := fun o => (V8.alloc o).c2
              have v3 := fun o => (V8.alloc o).c3
              clear W8 V8
              go_wp2
              go_loop [20, 21] (fun p i => ∃ k : Nat, k ≤ len ∧ p = .bool false ∧ i = .int .i64 k ∧ ∀ j, j < k → (M j).i ≠ fi) (fun _ i => len - (intOf i).toNat)
              case atStart => exact ⟨0, by omega, rfl, rfl, fun j hj => absurd hj (by omega)⟩
              case round =>
                obtain ⟨k, hk, rfl, rfl, hnk⟩ := hrel
                have HN : Hid _ := hnk
                clear hnk

                have hlt : k < len := by
                  by_cases h : k < len
                  · exact h
                  · exact absurd HE0.out (HN.out k0 (by omega))
                obtain ⟨b', off', e, c0, _⟩ := hM9 (Obj.cells #[.string bi, .string bl, .string bp, .string bd] 32) k hlt
                injection e with e
                injection e with e1 e2 e3
                subst e1 e2 e3
                clear hM9 hk0
                go_wp2
                · go_ret
                  exact ⟨rfl, hb08.alloc hb08.size _⟩
                · have he : ((M k).i.toList == fi.toList) = false := by assumption
                  go_round
                  case rel => exact ⟨k + 1, by omega, rfl, by go_num, no_more HN.out (str_ne he)⟩
                  case measure => simp [intOf]; omega
            · exact absurd hk0 hc
          · obtain ⟨e1, e2⟩ := HF.out.1.none hno
            obtain ⟨e3, e4⟩ := HF.out.2.1.none (fun j hj => hno j (by omega))
            obtain ⟨e5, e6⟩ := HF.out.2.2.none (fun j hj => hno (len + j) (by omega))
            have HNO : Hid _ := hno
            clear HF HFM hno
            simp only [Mon.mk.injEq, Mon.zero] at e2 e4 e6
            obtain ⟨rfl, rfl, rfl, rfl⟩ := e2
            obtain ⟨rfl, rfl, rfl, rfl⟩ := e4
            obtain ⟨rfl, rfl, rfl, rfl⟩ := e6
            subst e1
            subst e3
            subst e5
            have y0 := fun o => (W8.alloc o).c0
            have y1 := fun o => (W8.alloc o).c1
            have y2 := fun o => (W8.alloc o).c2
            have y3 := fun o => (W8.alloc o).c3
            have v0 := fun o => (V8.alloc o).c0
            have v1 := fun o => (V8.alloc o).c1
            have v2 := fun o => (V8.alloc o).c2
            have v3 := fun o => (V8.alloc o).c3
            clear W8 V8
            go_wp2
            go_loop [20, 21] (fun p i => ∃ k : Nat, k ≤ len ∧ p = .bool false ∧ i = .int .i64 k ∧ ∀ j, j < k → (M j).i ≠ id) (fun _ i => len - (intOf i).toNat)
            case atStart => exact ⟨0, by omega, rfl, rfl, fun j hj => absurd hj (by omega)⟩
            case round =>
              obtain ⟨k, hk, rfl, rfl, hnk⟩ := hrel
              have HN : Hid _ := hnk
              clear hnk

              by_cases hlt : k < len
              · obtain ⟨b', off', e, c0, _⟩ := hM9 (Obj.cells #[.string ⟨#[]⟩, .string ⟨#[]⟩, .string ⟨#[]⟩, .string ⟨#[]⟩] 32) k hlt
                injection e with e
                injection e with e1 e2 e3
                subst e1 e2 e3
                have hne := ne_str (HNO.out k hlt)
                clear hM9
                go_wp2
                go_round
                case rel => exact ⟨k + 1, by omega, rfl, by go_num, no_more HN.out (str_ne hne)⟩
                case measure => simp [intOf]; omega
              · clear hM9
                go_wp2
                go_ret
                exact ⟨rfl, hb08.alloc hb08.size _⟩
        · have hlt : c < cap := by omega
          go_wp2_with fail
          refine (build7 pw _ ao2 (len - c) (cap - c) len2 cap2 (fun j => M (c + j)) _ (by intro h; cases h) (by omega) hl2 (hM4 _).back' (hS4 _)).mono ?_
          rintro e w5 ⟨⟨mo5, so5, sl5, rfl, hK⟩, hb5⟩
          have G5 := ((Grp.mk hz4 g0 g1 g2 : Grp w4 w3.heap.size pw mo len so sl).alloc _).below hb5
          have F5 := (Grp.mk' w4 pw mo4 so4 c sl4).below hb5
          have hz5 : w4.heap.size + 1 ≤ w5.heap.size := by have := hb5.size; simpa using this
          have hGm := (hG4.alloc _).below hb5
          have hFm := (hF.alloc _).below hb5
          have hM5 := (hM4 _).below hb5
          have hb05 : Below w1.heap.size w1 w5 := (hb04.alloc hb04.size _).trans (hb5.mono (by have := hb04.size; simp; omega))
          clear hM4 hS4 hG4 hF g0 g1 g2 hz4 hb5 hb04 hl2 hpw hid
          have x0 := fun o => (G5.alloc o).c0
          have x1 := fun o => (G5.alloc o).c1
          have x2 := fun o => (G5.alloc o).c2
          go_wp2_with fail
          refine (monitor8 pw id mo so len len sl sl M _ (by unfold maxLen; omega) (hGm.alloc _)).mono ?_
          rintro e w6 ⟨⟨⟨mi, ml, mp, md⟩, fo, rfl, hfind⟩, hb6⟩
          simp only [Mon.val]
          clear x0 x1 x2
          have F6 := (F5.alloc _).below hb6
          have K6 := (Grp.mk' w5 pw mo5 so5 (len - c) sl5).below hb6
          have hFm6 := (hFm.alloc _).below hb6
          have hKm6 := (hK.alloc _).below hb6
          have hM6 := (hM5.alloc _).below hb6
          have hb06 : Below w1.heap.size w1 w6 := (hb05.alloc hb05.size _).trans (hb6.mono (by have := hb05.size; simp; omega))
          clear G5 F5 hGm hFm hM5 hb05 hb6 hK hz5
          have x0 := fun o => (F6.alloc o).c0
          have x1 := fun o => (F6.alloc o).c1
          have x2 := fun o => (F6.alloc o).c2
          go_wp2_with fail
          refine (monitor8 pw id mo4 so4 c c sl4 sl4 M _ (by unfold maxLen; omega) (hFm6.alloc _)).mono ?_
          rintro e w7 ⟨⟨⟨fi, fl, fp, fd⟩, ffo, rfl, hffind⟩, hb7⟩
          simp only [Mon.val]
          clear x0 x1 x2
          have K7 := (K6.alloc _).below hb7
          have hKm7 := (hKm6.alloc _).below hb7
          have hM7 := (hM6.alloc _).below hb7
          have hb07 : Below w1.heap.size w1 w7 := (hb06.alloc hb06.size _).trans (hb7.mono (by have := hb06.size; simp; omega))
          have W7 := (MonC.mk' w6 mi ml mp md).below hb7
          clear F6 K6 hFm6 hKm6 hM6 hb06 hb7
          have x0 := fun o => (K7.alloc o).c0
          have x1 := fun o => (K7.alloc o).c1
          have x2 := fun o => (K7.alloc o).c2
          go_wp2_with fail
          refine (monitor8 pw id mo5 so5 (len - c) (len - c) sl5 sl5 (fun j => M (c + j)) _ (by unfold maxLen; omega) (hKm7.alloc _)).mono ?_
          rintro e w8 ⟨⟨⟨bi, bl, bp, bd⟩, bfo, rfl, hbfind⟩, hb8⟩
          simp only [Mon.val]
          clear x0 x1 x2
          have hM8 := (hM7.alloc _).below hb8
          have hb08 : Below w1.heap.size w1 w8 := (hb07.alloc hb07.size _).trans (hb8.mono (by have := hb07.size; simp; omega))
          have W8 := (W7.alloc _).below hb8
          have V8 := (MonC.mk' w7 fi fl fp fd).below hb8
          clear K7 hKm7 hM7 hb07 hb8 W7
          have hM9 := fun o => hM8.alloc o
          have HF : Hid (Finds M len id ⟨mi, ml, mp, md⟩ fo ∧ Finds M c id ⟨fi, fl, fp, fd⟩ ffo ∧ Finds (fun j => M (c + j)) (len - c) id ⟨bi, bl, bp, bd⟩ bfo) := ⟨hfind, hffind, hbfind⟩
          clear hfind hffind hbfind hM8
          rcases HFM.out with ⟨k0, hk0, he0, hno0⟩ | hno
          · obtain ⟨e1, e2⟩ := HF.out.1.some hk0 he0 hno0
            have HE0 : Hid ((M k0).i = id) := he0
            have emi : mi = id := (congrArg Mon.i e2).trans he0
            have HF' : Hid _ := HF.out.2
            clear HF HFM
            by_cases hc : k0 < c
            · obtain ⟨e3, e4⟩ := HF'.out.1.some hc he0 hno0
              have e5 := e4.trans e2.symm
              clear e2 e4 HF' he0 hno0
              simp only [Mon.mk.injEq] at e5
              obtain ⟨rfl, rfl, rfl, rfl⟩ := e5
              subst e1
              subst e3
              subst emi
              have y0 := fun o => (W8.alloc o).c0
              have y1 := fun o => (W8.alloc o).c1
              have y2 := fun o => (W8.alloc o).c2
              have y3 := fun o => (W8.alloc o).c3
              have v0 := fun o => (V8.alloc o).c0
              have v1 := fun o => (V8.alloc o).c1
              have v2 := fun o => (V8.alloc o).c2
              have v3 := fun o => (V8.alloc o).c3
              clear W8 V8
              go_wp2
              go_loop [20, 21] (fun p i => ∃ k : Nat, k ≤ len ∧ p = .bool false ∧ i = .int .i64 k ∧ ∀ j, j < k → (M j).i ≠ fi) (fun _ i => len - (intOf i).toNat)
              case atStart => exact ⟨0, by omega, rfl, rfl, fun j hj => absurd hj (by omega)⟩
              case round =>
                obtain ⟨k, hk, rfl, rfl, hnk⟩ := hrel
                have HN : Hid _ := hnk
                clear hnk

                have hlt : k < len := by
                  by_cases h : k < len
                  · exact h
                  · exact absurd HE0.out (HN.out k0 (by omega))
                obtain ⟨b', off', e, c0, _⟩ := hM9 (Obj.cells #[.string bi, .string bl, .string bp, .string bd] 32) k hlt
                injection e with e
                injection e with e1 e2 e3
                subst e1 e2 e3
                clear hM9 hk0
                go_wp2
                · go_ret
                  exact ⟨rfl, hb08.alloc hb08.size _⟩
                · have he : ((M k).i.toList == fi.toList) = false := by assumption
                  go_round
                  case rel => exact ⟨k + 1, by omega, rfl, by go_num, no_more HN.out (str_ne he)⟩
                  case measure => simp [intOf]; omega
            · obtain ⟨e3, e4⟩ := HF'.out.1.none (fun j hj => hno0 j (by omega))
              obtain ⟨e6, e7⟩ := HF'.out.2.some (k := k0 - c) (by omega) (by show (M (c + (k0 - c))).i = id; rw [show c + (k0 - c) = k0 by omega]; exact he0) (fun j hj => hno0 (c + j) (by omega))
              have e5 := e7.trans ((congrArg M (show c + (k0 - c) = k0 by omega)).trans e2.symm)
              clear e2 e7 HF' he0 hno0
              simp only [Mon.mk.injEq, Mon.zero] at e4 e5
              obtain ⟨rfl, rfl, rfl, rfl⟩ := e5
              obtain ⟨rfl, rfl, rfl, rfl⟩ := e4
              subst e1
              subst e3
              subst e6
              subst emi
              have y0 := fun o => (W8.alloc o).c0
              have y1 := fun o => (W8.alloc o).c1
              have y2 := fun o => (W8.alloc o).c2
              have y3 := fun o => (W8.alloc o).c3
              have v0 := fun o => (V8.alloc o).c0
              have v1 := fun o => (V8.alloc o).c1
              have v2 := fun o => (V8.alloc o).c2
              have v3 := fun o => (V8.alloc o).c3
              clear W8 V8
              go_wp2
              go_loop [20, 21] (fun p i => ∃ k : Nat, k ≤ len ∧ p = .bool false ∧ i = .int .i64 k ∧ ∀ j, j < k → (M j).i ≠ bi) (fun _ i => len - (intOf i).toNat)
              case atStart => exact ⟨0, by omega, rfl, rfl, fun j hj => absurd hj (by omega)⟩
              case round =>
                obtain ⟨k, hk, rfl, rfl, hnk⟩ := hrel
                have HN : Hid _ := hnk
                clear hnk

                have hlt : k < len := by
                  by_cases h : k < len
                  · exact h
                  · exact absurd HE0.out (HN.out k0 (by omega))
                obtain ⟨b', off', e, c0, _⟩ := hM9 (Obj.cells #[.string bi, .string bl, .string bp, .string bd] 32) k hlt
                injection e with e
                injection e with e1 e2 e3
                subst e1 e2 e3
                clear hM9 hk0
                go_wp2
                · go_ret
                  exact ⟨rfl, hb08.alloc hb08.size _⟩
                · have he : ((M k).i.toList == bi.toList) = false := by assumption
                  go_round
                  case rel => exact ⟨k + 1, by omega, rfl, by go_num, no_more HN.out (str_ne he)⟩
                  case measure => simp [intOf]; omega
          · obtain ⟨e1, e2⟩ := HF.out.1.none hno
            obtain ⟨e3, e4⟩ := HF.out.2.1.none (fun j hj => hno j (by omega))
            obtain ⟨e5, e6⟩ := HF.out.2.2.none (fun j hj => hno (c + j) (by omega))
            have HNO : Hid _ := hno
            clear HF HFM hno
            simp only [Mon.mk.injEq, Mon.zero] at e2 e4 e6
            obtain ⟨rfl, rfl, rfl, rfl⟩ := e2
            obtain ⟨rfl, rfl, rfl, rfl⟩ := e4
            obtain ⟨rfl, rfl, rfl, rfl⟩ := e6
            subst e1
            subst e3
            subst e5
            have y0 := fun o => (W8.alloc o).c0
            have y1 := fun o => (W8.alloc o).c1
            have y2 := fun o => (W8.alloc o).c2
            have y3 := fun o => (W8.alloc o).c3
            have v0 := fun o => (V8.alloc o).c0
            have v1 := fun o => (V8.alloc o).c1
            have v2 := fun o => (V8.alloc o).c2
            have v3 := fun o => (V8.alloc o).c3
            clear W8 V8
            go_wp2
            go_loop [20, 21] (fun p i => ∃ k : Nat, k ≤ len ∧ p = .bool false ∧ i = .int .i64 k ∧ ∀ j, j < k → (M j).i ≠ id) (fun _ i => len - (intOf i).toNat)
            case atStart => exact ⟨0, by omega, rfl, rfl, fun j hj => absurd hj (by omega)⟩
            case round =>
              obtain ⟨k, hk, rfl, rfl, hnk⟩ := hrel
              have HN : Hid _ := hnk
              clear hnk

              by_cases hlt : k < len
              · obtain ⟨b', off', e, c0, _⟩ := hM9 (Obj.cells #[.string ⟨#[]⟩, .string ⟨#[]⟩, .string ⟨#[]⟩, .string ⟨#[]⟩] 32) k hlt
                injection e with e
                injection e with e1 e2 e3
                subst e1 e2 e3
                have hne := ne_str (HNO.out k hlt)
                clear hM9
                go_wp2
                go_round
                case rel => exact ⟨k + 1, by omega, rfl, by go_num, no_more HN.out (str_ne hne)⟩
                case measure => simp [intOf]; omega
              · clear hM9
                go_wp2
                go_ret
                exact ⟨rfl, hb08.alloc hb08.size _⟩
end Go.Proofs.Qxb6627599a
