import Derived.Test.Qxb6627703aVect
namespace Go.Proofs.Qxb6627703a
open Go.RowKit Go.WideMaps Go.Maps
set_option linter.unusedSimpArgs false

theorem box2f (W : World) (vs : Array Value) (T : TypeId) (o : Obj) (k : Nat) : ((W.alloc o).alloc (.cells vs T)).frozen? ⟨W.heap.size + 1, k, none⟩ = false := by
  have e : ((W.alloc o).alloc (.cells vs T)).heap[W.heap.size + 1]? = some (.cells vs T) := by
    have := heap_alloc_new (W.alloc o) (.cells vs T)
    simpa using this
  unfold World.frozen?
  rw [e]
  simp

/-- What Run hands back. -/
def RunPost (l : List R6) (c : C3) (e : Ending) : Prop := ∃ x, e = .returned (.tuple #[vR x, .bool (heldL l c)]) ∧ (heldL l c = true → inR x c = true)

set_option maxRecDepth 100000 in
set_option maxHeartbeats 4000000 in
theorem run6 (vb : Nat) (l : List R6) (c : C3) (s : Sl) (w : World) (hvb : vb < w.heap.size) (hl : l.length ≤ 1048577) (hR : Row w vb s l)
    (hlook : ∀ W, W.heap[vb]? = w.heap[vb]? → (Instr.lookup 31 (.map (some vb)) (.int .u16 c.2.2) false).run Try.prog W = .ok (vS s) W) :
    Calls Try.prog 6 #[.map (some vb), vC c] w fun e w' => RunPost l c e ∧ Grew w w' := by
  obtain ⟨L, hL⟩ : ∃ L, L = l.length := ⟨_, rfl⟩
  have HE : Hid (L = l.length) := hL
  obtain ⟨h1, hR, _⟩ := hR
  obtain ⟨ao, len, cap⟩ := s
  dsimp only at h1 hR
  rw [← hL] at hR hl h1
  subst h1
  clear hL
  have HC : Hid (vC c = .agg #[.int .i64 c.1, .int .u64 c.2.1, .int .u16 c.2.2]) := rfl
  rw [HC.out]
  have hlk := hlook ((w.alloc (.cells #[.int .i64 c.1, .int .u64 c.2.1, .int .u16 c.2.2] 37)).alloc (.cells #[.int .i64 0, .int .u64 0, .int .u16 0, .int .i64 0, .int .u64 0, .int .u16 0] 39)) (by
    exact (((Grew.refl w).alloc _).alloc _).heap hvb)
  unfold vS at hlk
  dsimp only at hlk
  clear hlook
  go_enter Try.func6, Try.ntmps6
  go_wp2
  go_loopw [13] (fun i wr => ∃ k : Nat, k ≤ len ∧ i = .int .i64 k ∧ Grew ((w.alloc (.cells #[.int .i64 c.1, .int .u64 c.2.1, .int .u16 c.2.2] 37)).alloc (.cells #[.int .i64 0, .int .u64 0, .int .u16 0, .int .i64 0, .int .u64 0, .int .u16 0] 39)) wr ∧ Hid (heldL (l.take k) c = false)) (fun i _ => len - (intOf i).toNat)
  case atStart => exact ⟨0, by omega, rfl, Grew.refl _, by show _ = _; simp [heldL]⟩
  case round =>
    clear hlk
    obtain ⟨k, hk, rfl, hG, HH⟩ := hrel
    obtain ⟨x0, x1, x2⟩ := ((At.box1 ..).of hG).three
    obtain ⟨y0, y1, y2, y3, y4, y5⟩ := ((At.box2 ..).of hG).six
    have f : ∀ k, wr.frozen? ⟨w.heap.size + 1, k, none⟩ = false := fun k => hG.frozen (by simp) (box2f ..)
    have hAx := (At.box1 w #[.int .i64 c.1, .int .u64 c.2.1, .int .u16 c.2.2] 37 (.cells #[.int .i64 0, .int .u64 0, .int .u16 0, .int .i64 0, .int .u64 0, .int .u16 0] 39)).of hG
    have hAy := (At.box2 w #[.int .i64 0, .int .u64 0, .int .u16 0, .int .i64 0, .int .u64 0, .int .u16 0] 39 (.cells #[.int .i64 c.1, .int .u64 c.2.1, .int .u16 c.2.2] 37)).of hG
    have ca : ∀ o q, (wr.alloc o).cell? ⟨w.heap.size, q, none⟩ = wr.cell? ⟨w.heap.size, q, none⟩ := fun o q => World.cell?_alloc_lt _ _ _ hAx.1
    have hsz : w.heap.size + 1 < wr.heap.size := by have := hG.size; simp at this; omega
    by_cases hlt : k < len
    · obtain ⟨b, off, rfl, hbl, c0', c1', c2', c3', c4', c5'⟩ := hR k hlt
      have hG' : Grew w wr := (((Grew.refl _).alloc _).alloc _).trans hG
      have c0 := hG'.cell (p := ⟨b, off + k * 6, none⟩) hbl c0'
      have c1 := hG'.cell (p := ⟨b, off + k * 6 + 1, none⟩) hbl c1'
      have c2 := hG'.cell (p := ⟨b, off + k * 6 + 2, none⟩) hbl c2'
      have c3 := hG'.cell (p := ⟨b, off + k * 6 + 3, none⟩) hbl c3'
      have c4 := hG'.cell (p := ⟨b, off + k * 6 + 4, none⟩) hbl c4'
      have c5 := hG'.cell (p := ⟨b, off + k * 6 + 5, none⟩) hbl c5'
      have hI := fun W => holds13 (fn l k) c W
      rw [HC.out] at hI
      clear hR c0' c1' c2' c3' c4' c5' hG'
      cases hb : inR (fn l k) c with
      | true =>
        have HR : Hid (heldL l c = true) := heldL_some (by have := HE.out; omega) hb
        have HX : Hid (inR (fn l k) c = true) := hb
        rw [hb] at hI
        clear hb
        generalize fn l k = x at *
        obtain ⟨⟨t, n, r⟩, ⟨t', n', r'⟩⟩ := x
        unfold vR at hI
        dsimp only at hI c0 c1 c2 c3 c4 c5
        clear y0 y1 y2 y3 y4 y5
        go_wp2_with (go_at_call 13; with_reducible refine (hI _).mono ?_; rintro e w2 ⟨rfl, hG2⟩; have hG3 := ((Grew.refl wr).alloc _).trans hG2; obtain ⟨y0, y1, y2, y3, y4, y5⟩ := (hAy.of hG3).six; have f2 : ∀ k, w2.frozen? ⟨w.heap.size + 1, k, none⟩ = false := (fun k => hG3.frozen hsz (f k)); obtain ⟨z0, z1, z2, z3, z4, z5⟩ := ((At.box0 wr _ _).of hG2).six)
        exact bodyPost_ret (v := .tuple #[.agg #[.int .i64 t, .int .u64 n, .int .u16 r, .int .i64 t', .int .u64 n', .int .u16 r'], .bool true]) (by simp [results, Try.results6, go_sem, y0, y1, y2, y3, y4, y5]) rfl
          ⟨⟨((t, n, r), (t', n', r')), by rw [HR.out]; rfl, fun _ => HX.out⟩, by
            have := (((Grew.refl w).alloc _).alloc _).trans (hG.trans hG3)
            repeat (first | with_reducible exact this | with_reducible refine Grew.setCell ?_ (by simp) _)⟩
      | false =>
        have HN : Hid (heldL (l.take (k + 1)) c = false) := heldL_next (by have := HE.out; omega) HH.out hb
        rw [hb] at hI
        clear hb
        generalize fn l k = x at *
        obtain ⟨⟨t, n, r⟩, ⟨t', n', r'⟩⟩ := x
        unfold vR at hI
        dsimp only at hI c0 c1 c2 c3 c4 c5
        clear y0 y1 y2 y3 y4 y5 hAx hAy
        go_wp2_with (go_at_call 13; with_reducible refine (hI _).mono ?_; rintro e w2 ⟨rfl, hG2⟩)
        go_roundw
        case rel => exact ⟨k + 1, by omega, by go_num, (hG.alloc _).trans hG2, HN⟩
        case measure => simp [intOf]; omega
    · obtain rfl : k = len := by omega
      have HR : Hid (heldL l c = false) := by
        have h := HH.out
        rw [HE.out, List.take_length] at h
        exact h
      clear hR hAx hAy x0 x1 x2
      go_wp2
      exact bodyPost_ret (v := .tuple #[.agg #[.int .i64 0, .int .u64 0, .int .u16 0, .int .i64 0, .int .u64 0, .int .u16 0], .bool false]) (by simp [results, Try.results6, go_sem, y0, y1, y2, y3, y4, y5]) rfl
          ⟨⟨((0, 0, 0), (0, 0, 0)), by rw [HR.out]; rfl, fun h => by rw [HR.out] at h; cases h⟩, by
            have := (((Grew.refl w).alloc _).alloc _).trans hG
            repeat (first | with_reducible exact this | with_reducible refine Grew.setCell ?_ (by simp) _)⟩

end Go.Proofs.Qxb6627703a
