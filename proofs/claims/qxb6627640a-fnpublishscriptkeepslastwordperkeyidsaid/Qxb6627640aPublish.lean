import Derived.Test.Qxb6627640aMap
namespace Go.Proofs.Qxb6627640a
open Go.RowKit Go.WideMaps Go.Maps Go.MuLone
set_option linter.unusedSimpArgs false

def cput (F : ByteArray → Option Addr) (N : Nat) (s : ByteArray) : Nat := if (F s).isSome then N else N + 1
def cdel (F : ByteArray → Option Addr) (N : Nat) (s : ByteArray) : Nat := if (F s).isSome then N - 1 else N

/-- The end of Publish: the lock was taken, the map turned, the lock given back. -/
theorem prov_end {w w1 : World} {pb mb c n : Nat} {F F' : ByteArray → Option Addr} {N N' : Nat} {D' : DataW (Option Addr)} (h : Prov w pb mb c F N) (hn : n ≤ c + 1)
    (ho2 : w1.ownsMap Try.prog 9 R mb n D') (ht2 : (w.setCell ⟨pb, 2, none⟩ (.int .i32 1)).mapTurned w1 mb)
    (hh : ∀ s, Maps.has D' (kl s) = (F' s).isSome) (ha : ∀ s, D'.atKey (kl s) (.held none) = .held (F' s)) (hsz : Maps.size D' = N') :
    w1.cell? ⟨pb, 2, none⟩ = some (.int .i32 1) ∧ w1.frozen? ⟨pb, 2, none⟩ = false ∧
    Prov (w1.setCell ⟨pb, 2, none⟩ (.int .i32 0)) pb mb (c + 1) F' N' ∧ Only w (w1.setCell ⟨pb, 2, none⟩ (.int .i32 0)) pb mb := by
  have hg := ht2.grown
  have hlt0 : pb < (w.setCell ⟨pb, 2, none⟩ (.int .i32 1)).heap.size := by simpa [World.setCell] using h.lt
  have hblk := hg.block pb hlt0 (fun e => h.ne (Option.some.inj e))
  have hsize : w1.heap.size = w.heap.size := by
    obtain ⟨es, ck, es', ck', hb, rfl⟩ := ht2
    simp [ChangeMaps.setBlock, World.setCell]
  have k2 : w1.cell? ⟨pb, 2, none⟩ = some (.int .i32 1) := by
    have e : w1.cell? ⟨pb, 2, none⟩ = (w.setCell ⟨pb, 2, none⟩ (.int .i32 1)).cell? ⟨pb, 2, none⟩ := by simp only [World.cell?, hblk]
    rw [e]
    exact World.cell?_setCell_same _ _ _ h.c2
  have k4 : w1.cell? ⟨pb, 4, none⟩ = some (.map (some mb)) := by
    have e : w1.cell? ⟨pb, 4, none⟩ = (w.setCell ⟨pb, 2, none⟩ (.int .i32 1)).cell? ⟨pb, 4, none⟩ := by simp only [World.cell?, hblk]
    rw [e, World.cell?_setCell_other _ _ _ _ (by simp)]
    exact h.c4
  have kf : w1.frozen? ⟨pb, 2, none⟩ = false := by
    rw [ht2.frozen, World.frozen?_setCell]
    exact h.f2
  refine ⟨k2, kf, ⟨h.ne, ?_, World.cell?_setCell_same _ _ _ k2, ?_, ?_, n, D', hn, ho2.setCell (fun e => h.ne e.symm) _, hh, ha, hsz⟩, ?_⟩
  · have := h.lt
    simp [World.setCell]
    omega
  · rw [World.cell?_setCell_other _ _ _ _ (by simp)]
    exact k4
  · rw [World.frozen?_setCell]
    exact kf
  · refine ⟨hg.os, hg.tape, hg.output, by simpa [World.setCell] using hsize, fun k h1 h2 => ?_⟩
    rw [Below.heap_setCell _ _ _ _ h1]
    by_cases hk : k < (w.setCell ⟨pb, 2, none⟩ (.int .i32 1)).heap.size
    · rw [hg.block k hk (fun e => h2 (Option.some.inj e))]
      exact Below.heap_setCell _ _ _ _ h1
    · have e1 : (w.setCell ⟨pb, 2, none⟩ (.int .i32 1)).heap.size = w.heap.size := by simp [World.setCell]
      rw [Array.getElem?_eq_none (by omega), Array.getElem?_eq_none (by omega)]

set_option maxRecDepth 100000 in
set_option maxHeartbeats 1000000 in
theorem publish_some (w : World) (pb mb c : Nat) (F : ByteArray → Option Addr) (N : Nat) (s : ByteArray) (a : Addr) (hs : s.size ≤ maxLen) (hc : c < maxLen) (h : Prov w pb mb c F N) :
    Calls Try.prog 8 #[.pointer (some ⟨pb, 0, none⟩), .string s, .pointer (some a)] w fun e w' => e = .returned (.tuple #[]) ∧
      Prov w' pb mb (c + 1) (upd F s (some a)) (cput F N s) ∧ Only w w' pb mb := by
  have hp := h
  obtain ⟨hne, hlt, c2, c4, f2, n, D, hn, ho, hh, ha, hsz⟩ := h
  have ho1 := ho.setCell (a := ⟨pb, 2, none⟩) (fun e => hne e.symm) (.int .i32 1)
  have hsz' : Maps.size (D.put (kl s) (.held (some a))) = cput F N s := by
    rw [size_put (ho.tidy law), hh s, hsz]
    rfl
  have hend := fun w1 ho2 ht2 => prov_end (w1 := w1) (n := n + 1) hp (by omega) ho2 ht2 (put_has ho.isMap hh s a) (put_at ho.isMap ha s a) hsz'
  have HE : Hid _ := hend
  clear hend hsz' hp hh ha hsz
  go_enter_defers Try.func8, Try.ntmps8
  go_wp2_with (first | (go_at_call 13; refine (lock_free Try.muLib ⟨pb, 2, none⟩ _ c2 f2).mono ?_; rintro e w' ⟨rfl, rfl⟩) | (at_mapUpdate; refine wpList_mapUpdate_in _ rfl _ _ _ 35 rfl 9 29 law Try.underlying35 R mb n D rfl ho1 (by omega) _ _ (kl s) rfl rfl (keyOf_string_mk Try.underlying9 hs) _ [] (R_mk (some a)) ?_; intro w1 ho2 ht2))
  obtain ⟨k2, kf, hP, hO⟩ := HE.out w1 ho2 ht2
  refine leaves_cons (f := 14) (args := #[.pointer (some ⟨pb, 2, none⟩)]) (by simp) (by simp [go_sem]) ?_
  refine (unlock_deferred Try.muLib ⟨pb, 2, none⟩ .returning _ k2 kf).mono ?_
  rintro e u' w'' ⟨rfl, rfl, rfl⟩
  exact ⟨_, results_none rfl _ _ _, rfl, hP, hO⟩

set_option maxRecDepth 100000 in
set_option maxHeartbeats 1000000 in
theorem publish_none (w : World) (pb mb c : Nat) (F : ByteArray → Option Addr) (N : Nat) (s : ByteArray) (hs : s.size ≤ maxLen) (h : Prov w pb mb c F N) :
    Calls Try.prog 8 #[.pointer (some ⟨pb, 0, none⟩), .string s, .pointer none] w fun e w' => e = .returned (.tuple #[]) ∧
      Prov w' pb mb (c + 1) (upd F s none) (cdel F N s) ∧ Only w w' pb mb := by
  have hp := h
  obtain ⟨hne, hlt, c2, c4, f2, n, D, hn, ho, hh, ha, hsz⟩ := h
  have ho1 := ho.setCell (a := ⟨pb, 2, none⟩) (fun e => hne e.symm) (.int .i32 1)
  have hsz' : Maps.size (D.del (kl s)) = cdel F N s := by
    have := size_del (k := kl s) (ho.tidy law)
    rw [hh s, hsz] at this
    unfold cdel
    split at this <;> rename_i e
    · rw [if_pos e]; omega
    · rw [if_neg e]; omega
  have hend := fun w1 ho2 ht2 => prov_end (w1 := w1) (n := n) hp (by omega) ho2 ht2 (del_has hh s) (del_at ha s) hsz'
  have HE : Hid _ := hend
  clear hend hsz' hp hh ha hsz
  go_enter_defers Try.func8, Try.ntmps8
  go_wp2_with (first | (go_at_call 13; refine (lock_free Try.muLib ⟨pb, 2, none⟩ _ c2 f2).mono ?_; rintro e w' ⟨rfl, rfl⟩) | (at_delete; refine wpList_delete_own _ rfl _ _ 35 9 rfl 29 law Try.underlying35 R mb n D rfl ho1 _ (kl s) rfl (keyOf_string_mk Try.underlying9 hs) ?_; intro w1 ho2 ht2))
  obtain ⟨k2, kf, hP, hO⟩ := HE.out w1 ho2 ht2
  refine leaves_cons (f := 14) (args := #[.pointer (some ⟨pb, 2, none⟩)]) (by simp) (by simp [go_sem]) ?_
  refine (unlock_deferred Try.muLib ⟨pb, 2, none⟩ .returning _ k2 kf).mono ?_
  rintro e u' w'' ⟨rfl, rfl, rfl⟩
  exact ⟨_, results_none rfl _ _ _, rfl, hP, hO⟩
end Go.Proofs.Qxb6627640a
