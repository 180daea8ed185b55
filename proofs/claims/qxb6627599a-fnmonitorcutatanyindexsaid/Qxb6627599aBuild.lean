import Derived.Test.Qxb6627599aBytes
namespace Go.Proofs.Qxb6627599a
open Go.RowKit
set_option linter.unusedSimpArgs false

theorem Try.info32 : (Try.prog.info? 32).map (fun i => (i.zero, i.size, i.bytes)) = some (some (.agg #[.string ⟨#[]⟩, .string ⟨#[]⟩, .string ⟨#[]⟩, .string ⟨#[]⟩]), 4, 64) := by kernel_rfl
theorem Try.info45 : (Try.prog.info? 45).map (fun i => (i.zero, i.size, i.bytes)) = some (some (.agg #[.string ⟨#[]⟩, .string ⟨#[]⟩, .int .i64 0, .int .i64 0, .int .i64 0, .pointer none, .string ⟨#[]⟩]), 7, 80) := by kernel_rfl

set_option maxRecDepth 100000 in
set_option maxHeartbeats 1000000 in
theorem asMonitor10 (a b c d : ByteArray) (w : World) :
    Calls Try.prog 10 #[.agg #[.string a, .string b, .string c, .string d]] w fun e w' => e = .returned (.agg #[.string a, .string b, .string c, .string d]) ∧
      ((w.alloc (.cells #[.string a, .string b, .string c, .string d] 36)).alloc (.cells #[.string a, .string b, .string c, .string d] 32)) = w' := by
  go_enter Try.func10, Try.ntmps10
  go_wp2
  exact bodyPost_ret (v := .agg #[.string a, .string b, .string c, .string d]) (by simp [results, Try.results10, go_sem]) rfl ⟨rfl, rfl⟩

/-- The block g has n cells that may be written. -/
structure Room (w : World) (g n : Nat) : Prop where
  lt : g < w.heap.size
  cell : ∀ j, j < n → ∃ v, w.cell? ⟨g, j, none⟩ = some v
  frz : ∀ j, w.frozen? ⟨g, j, none⟩ = false

theorem Room.of_owns {w : World} {base e size g n cap : Nat} {xs : List Value} (h : w.ownsRow base e size (.slice (some ⟨g, 0, none⟩) n cap) n xs) : Room w g (n * size) := by
  refine ⟨?_, ?_, fun j => h.frozenAt j⟩
  · obtain ⟨_, ⟨h1, _⟩ | ⟨g', c', cur, h1, _, h2, _⟩⟩ := h
    · cases h1
    · injection h1 with h1 _ _
      injection h1 with h1
      injection h1 with h1
      subst h1
      obtain ⟨hlt, _⟩ := Array.getElem?_eq_some_iff.1 h2
      exact hlt
  · intro j hj
    rw [h.cellAt j hj]
    have := h.1
    exact ⟨_, List.getElem?_eq_getElem (by omega)⟩

theorem Room.alloc {w : World} {g n : Nat} (h : Room w g n) (o : Obj) : Room (w.alloc o) g n :=
  ⟨by have := h.lt; simp; omega, fun j hj => by rw [World.cell?_alloc_past _ _ _ h.lt]; exact h.cell j hj,
    fun j => by rw [World.frozen?_alloc_old _ _ _ (show g ≠ _ by have := h.lt; omega)]; exact h.frz j⟩

theorem cell_set {w : World} {p q : Addr} {u : Value} {v : Value} (h : w.cell? q = some v) : (w.setCell p u).cell? q = some (if p = q then u else v) := by
  by_cases e : p = q
  · subst e; rw [if_pos rfl]; exact World.cell?_setCell_same _ _ _ h
  · rw [if_neg e, World.cell?_setCell_other _ _ _ _ e]; exact h

theorem Room.setCell {w : World} {g n : Nat} (h : Room w g n) (p : Addr) (u : Value) : Room (w.setCell p u) g n :=
  ⟨by have := h.lt; simp [World.setCell]; omega, fun j hj => by obtain ⟨v, hv⟩ := h.cell j hj; exact ⟨_, cell_set hv⟩,
    fun j => by rw [World.frozen?_setCell]; exact h.frz j⟩

/-- The first k rows of M lie in block g. -/
def Filled (w : World) (g : Nat) (M : Nat → Mon) (k : Nat) : Prop :=
  ∀ j, j < k → w.cell? ⟨g, j * 4, none⟩ = some (.string (M j).i) ∧ w.cell? ⟨g, j * 4 + 1, none⟩ = some (.string (M j).l) ∧ w.cell? ⟨g, j * 4 + 2, none⟩ = some (.string (M j).p) ∧ w.cell? ⟨g, j * 4 + 3, none⟩ = some (.string (M j).d)

theorem Below.setAt {B g o : Nat} {a w : World} {u : Value} (h : Below B a w) (hg : B ≤ g) (_ : Unit) : Below B a (w.setCell ⟨g, o, none⟩ u) := h.setCell (p := ⟨g, o, none⟩) hg u

theorem Filled.of {w w' : World} {g : Nat} {M : Nat → Mon} {k : Nat} (h : Filled w g M k) (e : ∀ j, w'.cell? ⟨g, j, none⟩ = w.cell? ⟨g, j, none⟩) : Filled w' g M k := by
  intro j hj
  rw [e, e, e, e]
  exact h j hj

theorem Filled.step {w : World} {g n : Nat} {M : Nat → Mon} {k : Nat} (h : Filled w g M k) (hr : Room w g n) (hk : k * 4 + 3 < n) :
    Filled ((((w.setCell ⟨g, k * 4, none⟩ (.string (M k).i)).setCell ⟨g, k * 4 + 1, none⟩ (.string (M k).l)).setCell ⟨g, k * 4 + 2, none⟩ (.string (M k).p)).setCell ⟨g, k * 4 + 3, none⟩ (.string (M k).d)) g M (k + 1) := by
  intro j hj
  have ne : ∀ {a b : Nat}, a ≠ b → (⟨g, a, none⟩ : Addr) ≠ ⟨g, b, none⟩ := by
    intro a b hab e
    injection e with _ e
    exact hab e
  by_cases e : j = k
  · subst e
    obtain ⟨v0, g0⟩ := hr.cell (j * 4) (by omega)
    obtain ⟨v1, g1⟩ := hr.cell (j * 4 + 1) (by omega)
    obtain ⟨v2, g2⟩ := hr.cell (j * 4 + 2) (by omega)
    obtain ⟨v3, g3⟩ := hr.cell (j * 4 + 3) (by omega)
    refine ⟨?_, ?_, ?_, ?_⟩
    · rw [World.cell?_setCell_other _ _ _ _ (ne (by omega)), World.cell?_setCell_other _ _ _ _ (ne (by omega)), World.cell?_setCell_other _ _ _ _ (ne (by omega)), World.cell?_setCell_same _ _ _ g0]
    · rw [World.cell?_setCell_other _ _ _ _ (ne (by omega)), World.cell?_setCell_other _ _ _ _ (ne (by omega))]
      exact World.cell?_setCell_same _ _ _ (cell_set g1)
    · rw [World.cell?_setCell_other _ _ _ _ (ne (by omega))]
      exact World.cell?_setCell_same _ _ _ (cell_set (cell_set g2))
    · exact World.cell?_setCell_same _ _ _ (cell_set (cell_set (cell_set g3)))
  · have := h j (by omega)
    refine ⟨?_, ?_, ?_, ?_⟩
    all_goals rw [World.cell?_setCell_other _ _ _ _ (ne (by omega)), World.cell?_setCell_other _ _ _ _ (ne (by omega)), World.cell?_setCell_other _ _ _ _ (ne (by omega)), World.cell?_setCell_other _ _ _ _ (ne (by omega))]
    · exact this.1
    · exact this.2.1
    · exact this.2.2.1
    · exact this.2.2.2

set_option maxRecDepth 100000 in
set_option maxHeartbeats 1000000 in
theorem build7_some (pw : ByteArray) (ad : Addr) (ao2 : Option Addr) (len cap len2 cap2 : Nat) (M : Nat → Mon) (w : World)
    (hl : len * 64 ≤ 140737488355328) (hl2 : len2 * 80 ≤ 140737488355328) (hM : MonsAt w (some ad) len M) (hS : SetsAt w ao2 len2) :
    Calls Try.prog 7 #[.string pw, .slice (some ad) len cap, .slice ao2 len2 cap2] w fun e w' =>
      (∃ mo so sl, e = .returned (.agg #[.string pw, .slice mo len len, .slice so sl sl]) ∧ MonsAt w' mo len M) ∧ Below w.heap.size w w' := by
  obtain ⟨i0, hi, hz0, hz1, hz2⟩ := info_parts Try.info32
  obtain ⟨j0, hj, hy0, hy1, hy2⟩ := info_parts Try.info45
  have n22 := fun (w : World) a n c => run_neq_slice_nil_any (P := Try.prog) w 22 36 a n c 0 0 Try.underlying22
  have n23 := fun (w : World) a n c => run_neq_slice_nil_any (P := Try.prog) w 23 41 a n c 0 0 Try.underlying23
  go_enter Try.func7, Try.ntmps7
  go_wp2_with (at_make; refine wpList_make_full _ rfl _ _ 26 rfl (w.heap.size + 1) 32 i0 _ 4 Try.underlying26 hi hz0 hz1 _ _ _ _ len rfl rfl rfl rfl ?b2 ?b3 ?b4 ?_)
  · rw [hz2]; omega
  · unfold maxLen; omega
  · simp
  intro w1 hown hgr
  have hroom := Room.of_owns hown
  have hb1 : Below (w.heap.size + 1) (w.alloc (Obj.cells #[Value.string { data := #[] }, Value.slice none 0 0, Value.slice none 0 0] 29)) w1 := (Below.refl _ _).grown hgr (by simp) (by intro k h; cases h)
  clear hown hgr
  go_wp2
  go_loopw [8] (fun i wr => ∃ k : Nat, k ≤ len ∧ i = .int .i64 k ∧ Room wr (w.heap.size + 1) (len * 4) ∧ Filled wr (w.heap.size + 1) M k ∧
      Below (w.heap.size + 1) (w.alloc (Obj.cells #[Value.string { data := #[] }, Value.slice none 0 0, Value.slice none 0 0] 29)) wr) (fun i _ => len - (intOf i).toNat)
  case atStart => exact ⟨0, by omega, rfl, hroom, fun j hj => absurd hj (by omega), hb1⟩
  case round =>
    clear hroom hb1
    obtain ⟨k, hk, rfl, hroom, hfill, hb⟩ := hrel
    have hbw : Below w.heap.size w wr := ((Below.refl _ _).alloc (Nat.le_refl _) _).trans (hb.mono (by omega))
    have hg := hroom.lt
    by_cases hlt : k < len
    · obtain ⟨b, off, h0, c0, c1, c2, c3, z0, z1, z2, z3, hbl⟩ := hM k hlt
      injection h0 with h0
      subst h0
      have d0 := (hbw.cell (p := ⟨b, off + k * 4, none⟩) hbl).trans c0
      have d1 := (hbw.cell (p := ⟨b, off + k * 4 + 1, none⟩) hbl).trans c1
      have d2 := (hbw.cell (p := ⟨b, off + k * 4 + 2, none⟩) hbl).trans c2
      have d3 := (hbw.cell (p := ⟨b, off + k * 4 + 3, none⟩) hbl).trans c3
      obtain ⟨v0, g0⟩ := hroom.cell (k * 4) (by omega)
      obtain ⟨v1, g1⟩ := hroom.cell (k * 4 + 1) (by omega)
      obtain ⟨v2, g2⟩ := hroom.cell (k * 4 + 2) (by omega)
      obtain ⟨v3, g3⟩ := hroom.cell (k * 4 + 3) (by omega)
      have ca : ∀ o o' q, ((wr.alloc o).alloc o').cell? ⟨w.heap.size + 1, q, none⟩ = wr.cell? ⟨w.heap.size + 1, q, none⟩ := fun o o' q => by rw [World.cell?_alloc_past _ _ _ (by simp; omega), World.cell?_alloc_past _ _ _ hg]
      have fa : ∀ o o' q, ((wr.alloc o).alloc o').frozen? ⟨w.heap.size + 1, q, none⟩ = false := fun o o' q => ((hroom.alloc o).alloc o').frz q
      clear hM hS c0 c1 c2 c3
      go_wp2_with (go_at_call 10; refine (asMonitor10 _ _ _ _ _).mono ?_; rintro e w2 ⟨rfl, rfl⟩)
      have hr2 := fun o o' => (hroom.alloc o).alloc o'
      have hb2 := fun o o' => (hb.alloc (by have := hb.size; simpa using this) o).alloc (by have := hb.size; simp at this ⊢; omega) o'
      go_roundw
      case rel => exact ⟨k + 1, by omega, by go_num, ((((hr2 _ _).setCell _ _).setCell _ _).setCell _ _).setCell _ _, (hfill.of (ca _ _)).step (hr2 _ _) (by omega),
          ((((hb2 _ _).setCell (by simp) _).setCell (by simp) _).setCell (by simp) _).setCell (by simp) _⟩
      case measure => simp [intOf]; omega
    · obtain rfl : k = len := by omega
      obtain ⟨wx, hwx⟩ : ∃ wx, wx = wr := ⟨_, rfl⟩
      subst hwx
      have HM : Hid (MonsAt w (some ad) k M) := hM
      have HMo : Hid (∀ W' : World, (∀ j, W'.cell? ⟨w.heap.size + 1, j, none⟩ = wx.cell? ⟨w.heap.size + 1, j, none⟩) → wx.heap.size ≤ W'.heap.size → MonsAt W' (some ⟨w.heap.size + 1, 0, none⟩) k M) := by
        intro W' h1 h2 j hj
        obtain ⟨b, off, _, _, _, _, _, z0, z1, z2, z3, _⟩ := hM j hj
        obtain ⟨a0, a1, a2, a3⟩ := hfill.of h1 j hj
        exact ⟨w.heap.size + 1, 0, rfl, by simpa using a0, by simpa using a1, by simpa using a2, by simpa using a3, z0, z1, z2, z3, by omega⟩
      have HC : Hid (∀ W', Below wx.heap.size wx W' → ∀ j, W'.cell? ⟨w.heap.size + 1, j, none⟩ = wx.cell? ⟨w.heap.size + 1, j, none⟩) := fun W' h j => h.cell (p := ⟨w.heap.size + 1, j, none⟩) hg
      clear hM hroom hfill hk hlt
      have hS' : SetsAt w ao2 len2 := hS
      clear hS
      have q0 : wx.cell? ⟨w.heap.size, 0, none⟩ = some (.string ⟨#[]⟩) := by rw [hb.cell (by simp)]; go_simp
      have q1 : wx.cell? ⟨w.heap.size, 1, none⟩ = some (.slice none 0 0) := by rw [hb.cell (by simp)]; go_simp
      have q2 : wx.cell? ⟨w.heap.size, 2, none⟩ = some (.slice none 0 0) := by rw [hb.cell (by simp)]; go_simp
      have f0 : wx.frozen? ⟨w.heap.size, 0, none⟩ = false := by rw [hb.frozen (by simp)]; go_simp
      have f1 : wx.frozen? ⟨w.heap.size, 1, none⟩ = false := by rw [hb.frozen (by simp)]; go_simp
      have f2 : wx.frozen? ⟨w.heap.size, 2, none⟩ = false := by rw [hb.frozen (by simp)]; go_simp
      have hsx : w.heap.size + 1 ≤ wx.heap.size := by have := hb.size; simpa using this
      by_cases hn2 : ao2 = none
      · subst hn2
        clear hS' HM
        go_wp2
        exact bodyPost_ret (v := .agg #[.string pw, .slice (some ⟨w.heap.size + 1, 0, none⟩) k k, .slice none 0 0]) (by simp [results, Try.results7, go_sem, q0, q1, q2]) rfl
          ⟨⟨(some ⟨w.heap.size + 1, 0, none⟩), none, 0, rfl, HMo.out _ (fun j => by simp [World.cell?_setCell_other]) (by simp [World.setCell])⟩, ((hbw.setCell (by simp) _).setCell (by simp) _).setCell (by simp) _⟩
      · obtain ⟨ad2, rfl⟩ := Option.ne_none_iff_exists'.1 hn2
        clear HM
        go_wp2_with (at_make; refine wpList_make_full _ rfl _ _ 27 rfl wx.heap.size 45 j0 _ 7 Try.underlying27 hj hy0 hy1 _ _ _ _ len2 rfl rfl rfl rfl ?b5 ?b6 ?b7 ?_)
        · rw [hy2]; omega
        · unfold maxLen; omega
        · exact Nat.le_refl _
        intro w2 hown hgr
        have hroom2 := Room.of_owns hown
        have hb2 : Below wx.heap.size wx w2 := (Below.refl _ _).grown hgr (Nat.le_refl _) (by intro k h; cases h)
        clear hown hgr
        go_wp2
        go_loopw [10] (fun i wr => ∃ k : Nat, k ≤ len2 ∧ i = .int .i64 k ∧ Room wr wx.heap.size (len2 * 7) ∧ Below wx.heap.size wx wr) (fun i _ => len2 - (intOf i).toNat)
        case atStart => exact ⟨0, by omega, rfl, hroom2, hb2⟩
        case round =>
          clear hroom2 hb2
          obtain ⟨wr2, hwr2⟩ : ∃ wr2, wr2 = wr := ⟨_, rfl⟩
          subst hwr2
          obtain ⟨k2, hk2, rfl, hroom2, hb2⟩ := hrel
          have hg2 := hroom2.lt
          have hbw2 : Below w.heap.size w wr2 := hbw.trans (hb2.mono (by omega))
          by_cases hlt2 : k2 < len2
          · obtain ⟨b, off, h0, s0, s1, s6, n2, n3, n4, pa, c0, c1, c2, c3, c4, c5, c6, z0, z1, z6, hbl, hpa⟩ := hS' k2 hlt2
            injection h0 with h0
            subst h0
            have d0 := (hbw2.cell (p := ⟨b, off + k2 * 7, none⟩) hbl).trans c0
            have d1 := (hbw2.cell (p := ⟨b, off + k2 * 7 + 1, none⟩) hbl).trans c1
            have d2 := (hbw2.cell (p := ⟨b, off + k2 * 7 + 2, none⟩) hbl).trans c2
            have d3 := (hbw2.cell (p := ⟨b, off + k2 * 7 + 3, none⟩) hbl).trans c3
            have d4 := (hbw2.cell (p := ⟨b, off + k2 * 7 + 4, none⟩) hbl).trans c4
            have d5 := (hbw2.cell (p := ⟨b, off + k2 * 7 + 5, none⟩) hbl).trans c5
            have d6 := (hbw2.cell (p := ⟨b, off + k2 * 7 + 6, none⟩) hbl).trans c6
            obtain ⟨v0, g0⟩ := hroom2.cell (k2 * 7) (by omega)
            obtain ⟨v1, g1⟩ := hroom2.cell (k2 * 7 + 1) (by omega)
            obtain ⟨v2, g2⟩ := hroom2.cell (k2 * 7 + 2) (by omega)
            obtain ⟨v3, g3⟩ := hroom2.cell (k2 * 7 + 3) (by omega)
            obtain ⟨v4, g4⟩ := hroom2.cell (k2 * 7 + 4) (by omega)
            obtain ⟨v5, g5⟩ := hroom2.cell (k2 * 7 + 5) (by omega)
            obtain ⟨v6, g6⟩ := hroom2.cell (k2 * 7 + 6) (by omega)
            clear hS' c0 c1 c2 c3 c4 c5 c6 z0 z1 z6 q0 q1 q2 f0 f1 f2
            have fr := hroom2.frz
            cases pa with
            | none =>
              have ca : ∀ o q, (wr2.alloc o).cell? ⟨wx.heap.size, q, none⟩ = wr2.cell? ⟨wx.heap.size, q, none⟩ := fun o q => World.cell?_alloc_past _ _ _ hg2
              have fa : ∀ o q, (wr2.alloc o).frozen? ⟨wx.heap.size, q, none⟩ = false := fun o q => (hroom2.alloc o).frz q
              clear hpa
              go_wp2
              go_roundw
              case rel => exact ⟨k2 + 1, by omega, by go_num, by repeat (first | with_reducible exact hroom2 | with_reducible apply Room.setCell | with_reducible apply Room.alloc), by repeat (first | with_reducible exact hb2 | with_reducible refine Below.setAt ?_ (Nat.le_refl _) () | (with_reducible refine Below.alloc ?_ ?_ _; rotate_left 1; · have := hb2.size; simp [World.setCell]; omega))⟩
              case measure => simp [intOf]; omega
            | some pp =>
              obtain ⟨pb, po, ps⟩ := pp
              obtain ⟨hsp, hpb, xb, hxb⟩ := hpa _ rfl
              simp only at hsp hpb
              subst hsp
              have dx := (hbw2.cell (p := ⟨pb, po, none⟩) hpb).trans hxb
              have hbx : pb < wr2.heap.size := by have := hbw2.size; omega
              have dxa : ∀ o, (wr2.alloc o).cell? ⟨pb, po, none⟩ = some (.bool xb) := fun o => (World.cell?_alloc_past _ _ _ hbx).trans dx
              have ca : ∀ o o' q, ((wr2.alloc o).alloc o').cell? ⟨wx.heap.size, q, none⟩ = wr2.cell? ⟨wx.heap.size, q, none⟩ := fun o o' q => by rw [World.cell?_alloc_past _ _ _ (by simp; omega), World.cell?_alloc_past _ _ _ hg2]
              have fa : ∀ o o' q, ((wr2.alloc o).alloc o').frozen? ⟨wx.heap.size, q, none⟩ = false := fun o o' q => ((hroom2.alloc o).alloc o').frz q
              clear hpa hxb
              go_wp2
              go_roundw
              case rel => exact ⟨k2 + 1, by omega, by go_num, by repeat (first | with_reducible exact hroom2 | with_reducible apply Room.setCell | with_reducible apply Room.alloc), by repeat (first | with_reducible exact hb2 | with_reducible refine Below.setAt ?_ (Nat.le_refl _) () | (with_reducible refine Below.alloc ?_ ?_ _; rotate_left 1; · have := hb2.size; simp [World.setCell]; omega))⟩
              case measure => simp [intOf]; omega
          · have p0 := (hb2.cell (p := ⟨w.heap.size, 0, none⟩) hsx).trans q0
            have p1 := (hb2.cell (p := ⟨w.heap.size, 1, none⟩) hsx).trans q1
            have p2 := (hb2.cell (p := ⟨w.heap.size, 2, none⟩) hsx).trans q2
            have e0 := (hb2.frozen (p := ⟨w.heap.size, 0, none⟩) hsx).trans f0
            have e1 := (hb2.frozen (p := ⟨w.heap.size, 1, none⟩) hsx).trans f1
            have e2 := (hb2.frozen (p := ⟨w.heap.size, 2, none⟩) hsx).trans f2
            have HMo2 : Hid (∀ W' : World, (∀ j, W'.cell? ⟨w.heap.size + 1, j, none⟩ = wr2.cell? ⟨w.heap.size + 1, j, none⟩) → wr2.heap.size ≤ W'.heap.size → MonsAt W' (some ⟨w.heap.size + 1, 0, none⟩) k M) :=
              fun W' h1 h2 => HMo.out W' (fun j => (h1 j).trans (HC.out _ hb2 j)) (by have := hb2.size; omega)
            clear q0 q1 q2 f0 f1 f2 hS' hroom2
            go_wp2
            exact bodyPost_ret (v := .agg #[.string pw, .slice (some ⟨w.heap.size + 1, 0, none⟩) k k, .slice (some ⟨wx.heap.size, 0, none⟩) len2 len2]) (by simp [results, Try.results7, go_sem, p0, p1, p2]) rfl
              ⟨⟨(some ⟨w.heap.size + 1, 0, none⟩), _, _, rfl, HMo2.out _ (fun j => by simp [World.cell?_setCell_other]) (by simp [World.setCell])⟩, ((hbw2.setCell (by simp) _).setCell (by simp) _).setCell (by simp) _⟩

set_option maxRecDepth 100000 in
set_option maxHeartbeats 1000000 in
theorem build7_none (pw : ByteArray) (ao2 : Option Addr) (cap len2 cap2 : Nat) (M : Nat → Mon) (w : World)
    (hl2 : len2 * 80 ≤ 140737488355328) (hS : SetsAt w ao2 len2) :
    Calls Try.prog 7 #[.string pw, .slice none 0 cap, .slice ao2 len2 cap2] w fun e w' =>
      (∃ mo so sl, e = .returned (.agg #[.string pw, .slice mo 0 0, .slice so sl sl]) ∧ MonsAt w' mo 0 M) ∧ Below w.heap.size w w' := by
  obtain ⟨j0, hj, hy0, hy1, hy2⟩ := info_parts Try.info45
  have n22 := fun (w : World) a n c => run_neq_slice_nil_any (P := Try.prog) w 22 36 a n c 0 0 Try.underlying22
  have n23 := fun (w : World) a n c => run_neq_slice_nil_any (P := Try.prog) w 23 41 a n c 0 0 Try.underlying23
  have hb : Below (w.heap.size + 1) (w.alloc (Obj.cells #[Value.string { data := #[] }, Value.slice none 0 0, Value.slice none 0 0] 29)) (w.alloc (Obj.cells #[Value.string { data := #[] }, Value.slice none 0 0, Value.slice none 0 0] 29)) := Below.refl _ _
  have hbw : Below w.heap.size w (w.alloc (Obj.cells #[Value.string { data := #[] }, Value.slice none 0 0, Value.slice none 0 0] 29)) := (Below.refl _ _).alloc (Nat.le_refl _) _
  have HM : Hid True := trivial
  have HMo : Hid (∀ W' : World, (∀ j, W'.cell? ⟨w.heap.size + 1, j, none⟩ = (w.alloc (Obj.cells #[Value.string { data := #[] }, Value.slice none 0 0, Value.slice none 0 0] 29)).cell? ⟨w.heap.size + 1, j, none⟩) → w.heap.size + 1 ≤ W'.heap.size → MonsAt W' none 0 M) := fun _ _ _ k hk => absurd hk (by omega)
  have hS' : SetsAt w ao2 len2 := hS
  clear hS
  have q0 : (w.alloc (Obj.cells #[Value.string { data := #[] }, Value.slice none 0 0, Value.slice none 0 0] 29)).cell? ⟨w.heap.size, 0, none⟩ = some (.string ⟨#[]⟩) := by rw [hb.cell (by simp)]; go_simp
  have q1 : (w.alloc (Obj.cells #[Value.string { data := #[] }, Value.slice none 0 0, Value.slice none 0 0] 29)).cell? ⟨w.heap.size, 1, none⟩ = some (.slice none 0 0) := by rw [hb.cell (by simp)]; go_simp
  have q2 : (w.alloc (Obj.cells #[Value.string { data := #[] }, Value.slice none 0 0, Value.slice none 0 0] 29)).cell? ⟨w.heap.size, 2, none⟩ = some (.slice none 0 0) := by rw [hb.cell (by simp)]; go_simp
  have f0 : (w.alloc (Obj.cells #[Value.string { data := #[] }, Value.slice none 0 0, Value.slice none 0 0] 29)).frozen? ⟨w.heap.size, 0, none⟩ = false := by rw [hb.frozen (by simp)]; go_simp
  have f1 : (w.alloc (Obj.cells #[Value.string { data := #[] }, Value.slice none 0 0, Value.slice none 0 0] 29)).frozen? ⟨w.heap.size, 1, none⟩ = false := by rw [hb.frozen (by simp)]; go_simp
  have f2 : (w.alloc (Obj.cells #[Value.string { data := #[] }, Value.slice none 0 0, Value.slice none 0 0] 29)).frozen? ⟨w.heap.size, 2, none⟩ = false := by rw [hb.frozen (by simp)]; go_simp
  have hsx : w.heap.size + 1 ≤ (w.heap.size + 1) := by simp
  by_cases hn2 : ao2 = none
  · subst hn2
    clear hS' HM
    go_enter Try.func7, Try.ntmps7
    go_wp2
    exact bodyPost_ret (v := .agg #[.string pw, .slice none 0 0, .slice none 0 0]) (by simp [results, Try.results7, go_sem]) rfl
      ⟨⟨none, none, 0, rfl, fun k hk => absurd hk (by omega)⟩, (Below.refl _ _).alloc (Nat.le_refl _) _⟩
  · obtain ⟨ad2, rfl⟩ := Option.ne_none_iff_exists'.1 hn2
    clear HM
    go_enter Try.func7, Try.ntmps7
    go_wp2_with (at_make; refine wpList_make_full _ rfl _ _ 27 rfl (w.heap.size + 1) 45 j0 _ 7 Try.underlying27 hj hy0 hy1 _ _ _ _ len2 rfl rfl rfl rfl ?b5 ?b6 ?b7 ?_)
    · rw [hy2]; omega
    · unfold maxLen; omega
    · simp
    intro w2 hown hgr
    have hroom2 := Room.of_owns hown
    have hb2 : Below (w.heap.size + 1) (w.alloc (Obj.cells #[Value.string { data := #[] }, Value.slice none 0 0, Value.slice none 0 0] 29)) w2 := (Below.refl _ _).grown hgr (by simp) (by intro k h; cases h)
    clear hown hgr
    go_wp2
    go_loopw [10] (fun i wr => ∃ k : Nat, k ≤ len2 ∧ i = .int .i64 k ∧ Room wr (w.heap.size + 1) (len2 * 7) ∧ Below (w.heap.size + 1) (w.alloc (Obj.cells #[Value.string { data := #[] }, Value.slice none 0 0, Value.slice none 0 0] 29)) wr) (fun i _ => len2 - (intOf i).toNat)
    case atStart => exact ⟨0, by omega, rfl, hroom2, hb2⟩
    case round =>
      clear hroom2 hb2
      obtain ⟨wr2, hwr2⟩ : ∃ wr2, wr2 = wr := ⟨_, rfl⟩
      subst hwr2
      obtain ⟨k2, hk2, rfl, hroom2, hb2⟩ := hrel
      have hg2 := hroom2.lt
      have hbw2 : Below w.heap.size w wr2 := hbw.trans (hb2.mono (by omega))
      by_cases hlt2 : k2 < len2
      · obtain ⟨b, off, h0, s0, s1, s6, n2, n3, n4, pa, c0, c1, c2, c3, c4, c5, c6, z0, z1, z6, hbl, hpa⟩ := hS' k2 hlt2
        injection h0 with h0
        subst h0
        have d0 := (hbw2.cell (p := ⟨b, off + k2 * 7, none⟩) hbl).trans c0
        have d1 := (hbw2.cell (p := ⟨b, off + k2 * 7 + 1, none⟩) hbl).trans c1
        have d2 := (hbw2.cell (p := ⟨b, off + k2 * 7 + 2, none⟩) hbl).trans c2
        have d3 := (hbw2.cell (p := ⟨b, off + k2 * 7 + 3, none⟩) hbl).trans c3
        have d4 := (hbw2.cell (p := ⟨b, off + k2 * 7 + 4, none⟩) hbl).trans c4
        have d5 := (hbw2.cell (p := ⟨b, off + k2 * 7 + 5, none⟩) hbl).trans c5
        have d6 := (hbw2.cell (p := ⟨b, off + k2 * 7 + 6, none⟩) hbl).trans c6
        obtain ⟨v0, g0⟩ := hroom2.cell (k2 * 7) (by omega)
        obtain ⟨v1, g1⟩ := hroom2.cell (k2 * 7 + 1) (by omega)
        obtain ⟨v2, g2⟩ := hroom2.cell (k2 * 7 + 2) (by omega)
        obtain ⟨v3, g3⟩ := hroom2.cell (k2 * 7 + 3) (by omega)
        obtain ⟨v4, g4⟩ := hroom2.cell (k2 * 7 + 4) (by omega)
        obtain ⟨v5, g5⟩ := hroom2.cell (k2 * 7 + 5) (by omega)
        obtain ⟨v6, g6⟩ := hroom2.cell (k2 * 7 + 6) (by omega)
        clear hS' c0 c1 c2 c3 c4 c5 c6 z0 z1 z6 q0 q1 q2 f0 f1 f2
        have fr := hroom2.frz
        cases pa with
        | none =>
          have ca : ∀ o q, (wr2.alloc o).cell? ⟨(w.heap.size + 1), q, none⟩ = wr2.cell? ⟨(w.heap.size + 1), q, none⟩ := fun o q => World.cell?_alloc_past _ _ _ hg2
          have fa : ∀ o q, (wr2.alloc o).frozen? ⟨(w.heap.size + 1), q, none⟩ = false := fun o q => (hroom2.alloc o).frz q
          clear hpa
          go_wp2
          go_roundw
          case rel => exact ⟨k2 + 1, by omega, by go_num, by repeat (first | with_reducible exact hroom2 | with_reducible apply Room.setCell | with_reducible apply Room.alloc), by repeat (first | with_reducible exact hb2 | with_reducible refine Below.setAt ?_ (Nat.le_refl _) () | (with_reducible refine Below.alloc ?_ ?_ _; rotate_left 1; · have := hb2.size; simp [World.setCell]; omega))⟩
          case measure => simp [intOf]; omega
        | some pp =>
          obtain ⟨pb, po, ps⟩ := pp
          obtain ⟨hsp, hpb, xb, hxb⟩ := hpa _ rfl
          simp only at hsp hpb
          subst hsp
          have dx := (hbw2.cell (p := ⟨pb, po, none⟩) hpb).trans hxb
          have hbx : pb < wr2.heap.size := by have := hbw2.size; omega
          have dxa : ∀ o, (wr2.alloc o).cell? ⟨pb, po, none⟩ = some (.bool xb) := fun o => (World.cell?_alloc_past _ _ _ hbx).trans dx
          have ca : ∀ o o' q, ((wr2.alloc o).alloc o').cell? ⟨(w.heap.size + 1), q, none⟩ = wr2.cell? ⟨(w.heap.size + 1), q, none⟩ := fun o o' q => by rw [World.cell?_alloc_past _ _ _ (by simp; omega), World.cell?_alloc_past _ _ _ hg2]
          have fa : ∀ o o' q, ((wr2.alloc o).alloc o').frozen? ⟨(w.heap.size + 1), q, none⟩ = false := fun o o' q => ((hroom2.alloc o).alloc o').frz q
          clear hpa hxb
          go_wp2
          go_roundw
          case rel => exact ⟨k2 + 1, by omega, by go_num, by repeat (first | with_reducible exact hroom2 | with_reducible apply Room.setCell | with_reducible apply Room.alloc), by repeat (first | with_reducible exact hb2 | with_reducible refine Below.setAt ?_ (Nat.le_refl _) () | (with_reducible refine Below.alloc ?_ ?_ _; rotate_left 1; · have := hb2.size; simp [World.setCell]; omega))⟩
          case measure => simp [intOf]; omega
      · have p0 := (hb2.cell (p := ⟨w.heap.size, 0, none⟩) hsx).trans q0
        have p1 := (hb2.cell (p := ⟨w.heap.size, 1, none⟩) hsx).trans q1
        have p2 := (hb2.cell (p := ⟨w.heap.size, 2, none⟩) hsx).trans q2
        have e0 := (hb2.frozen (p := ⟨w.heap.size, 0, none⟩) hsx).trans f0
        have e1 := (hb2.frozen (p := ⟨w.heap.size, 1, none⟩) hsx).trans f1
        have e2 := (hb2.frozen (p := ⟨w.heap.size, 2, none⟩) hsx).trans f2
        have HMo2 : Hid (∀ W' : World, (∀ j, W'.cell? ⟨w.heap.size + 1, j, none⟩ = wr2.cell? ⟨w.heap.size + 1, j, none⟩) → wr2.heap.size ≤ W'.heap.size → MonsAt W' none 0 M) :=
          fun _ _ _ k hk => absurd hk (by omega)
        clear q0 q1 q2 f0 f1 f2 hS' hroom2
        go_wp2
        exact bodyPost_ret (v := .agg #[.string pw, .slice none 0 0, .slice (some ⟨(w.heap.size + 1), 0, none⟩) len2 len2]) (by simp [results, Try.results7, go_sem, p0, p1, p2]) rfl
          ⟨⟨none, _, _, rfl, HMo2.out _ (fun j => by simp [World.cell?_setCell_other]) (by simp [World.setCell])⟩, ((hbw2.setCell (by simp) _).setCell (by simp) _).setCell (by simp) _⟩
end Go.Proofs.Qxb6627599a
