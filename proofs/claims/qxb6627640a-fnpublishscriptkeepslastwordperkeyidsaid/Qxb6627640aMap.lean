import Derived.Test.Qxb6627640aRows
import Derived.Test.Qxb6627640aLocks
import Derived.WalkKit
import Derived.WalkSpells
import Derived.WalkLawsBesides
import Derived.Maps.Own
import Derived.Maps.OwnOps
import Derived.Maps.OwnSet
import Derived.Maps.Views
import Derived.Conc.MuLone
import Derived.Defers
namespace Go.Proofs.Qxb6627640a
open Go.RowKit Go.WideMaps Go.Maps Go.MuLone

/-- How an element of the map reads, for the proof alone: the pointer itself. -/
def R (v : Value) : Option (DataW (Option Addr) × List MemPlace) :=
  match v with
  | .pointer p => some (.held p, [])
  | _ => none

theorem R_mk (p : Option Addr) : R (.pointer p) = some (.held p, []) := rfl
theorem R_inv {v : Value} {d : DataW (Option Addr)} {ps : List MemPlace} (h : R v = some (d, ps)) : ∃ p, v = .pointer p ∧ d = .held p := by
  unfold R at h
  split at h
  · rename_i p
    simp only [Option.some.injEq, Prod.mk.injEq] at h
    exact ⟨p, rfl, h.1.symm⟩
  · cases h

def kl (s : ByteArray) : Lit := .string s.data.toList
theorem kl_inj {a b : ByteArray} (h : kl a = kl b) : a = b := by
  unfold kl at h
  injection h with h
  exact WideShapes.bytes_inj h
theorem law : Keyed Try.prog 9 := string_keyed Try.underlying9
theorem zero29 (w : World) : (zeroValue 29).run Try.prog w = .ok (.pointer none) w := by kernel_rfl

def upd (F : ByteArray → Option Addr) (s : ByteArray) (p : Option Addr) : ByteArray → Option Addr := fun x => if x = s then p else F x

/-- Block mb is a map that holds F, N entries. -/
def PMap (w : World) (mb c : Nat) (F : ByteArray → Option Addr) (N : Nat) : Prop :=
  ∃ n D, n ≤ c ∧ w.ownsMap Try.prog 9 R mb n D ∧ (∀ s, Maps.has D (kl s) = (F s).isSome) ∧ (∀ s, D.atKey (kl s) (.held none) = .held (F s)) ∧ Maps.size D = N

theorem PMap.lt {w : World} {mb c : Nat} {F : ByteArray → Option Addr} {N : Nat} (h : PMap w mb c F N) : mb < w.heap.size := by
  obtain ⟨n, D, _, ho, _⟩ := h
  exact ho.lt

theorem PMap.le {w : World} {mb c : Nat} {F : ByteArray → Option Addr} {N : Nat} (h : PMap w mb c F N) : N ≤ c := by
  obtain ⟨n, D, hn, ho, _, _, hs⟩ := h
  have := ho.size_le
  omega

theorem PMap.mono {w : World} {mb c c' : Nat} {F : ByteArray → Option Addr} {N : Nat} (h : PMap w mb c F N) (hc : c ≤ c') : PMap w mb c' F N := by
  obtain ⟨n, D, hn, r⟩ := h
  exact ⟨n, D, by omega, r⟩

theorem PMap.of {w w' : World} {mb c : Nat} {F : ByteArray → Option Addr} {N : Nat} (h : PMap w mb c F N) (e : w'.heap[mb]? = w.heap[mb]?) : PMap w' mb c F N := by
  obtain ⟨n, D, hn, ⟨es, ck, hb, hF, hsz, hD⟩, r⟩ := h
  exact ⟨n, D, hn, ⟨es, ck, e.trans hb, hF, hsz, hD⟩, r⟩

theorem PMap.empty (w : World) : PMap (w.alloc (.map #[] 0)) w.heap.size 0 (fun _ => none) 0 :=
  ⟨0, .map [], Nat.le_refl _, World.ownsMap_made w _ _ _, fun _ => rfl, fun _ => rfl, rfl⟩

theorem isKey_kl (s : ByteArray) : WideAt.IsKeyLit (kl s) := by
  unfold kl WideAt.IsKeyLit
  simp

theorem put_has {D : DataW (Option Addr)} {F : ByteArray → Option Addr} (hD : IsMap D) (h : ∀ s, Maps.has D (kl s) = (F s).isSome) (x : ByteArray) (a : Addr) (s : ByteArray) :
    Maps.has (D.put (kl x) (.held (some a))) (kl s) = (upd F x (some a) s).isSome := by
  unfold upd
  by_cases e : s = x
  · subst e
    rw [has_put_same hD (isKey_kl _), if_pos rfl]
    rfl
  · rw [has_put_other (fun he => e (kl_inj he)), if_neg e]
    exact h s

theorem put_at {D : DataW (Option Addr)} {F : ByteArray → Option Addr} (hD : IsMap D) (h : ∀ s, D.atKey (kl s) (.held none) = .held (F s)) (x : ByteArray) (a : Addr) (s : ByteArray) :
    (D.put (kl x) (.held (some a))).atKey (kl s) (.held none) = .held (upd F x (some a) s) := by
  unfold upd
  by_cases e : s = x
  · subst e
    rw [atKey_put_same hD (isKey_kl _), if_pos rfl]
  · rw [atKey_put_other (fun he => e (kl_inj he)), if_neg e]
    exact h s

theorem del_has {D : DataW (Option Addr)} {F : ByteArray → Option Addr} (h : ∀ s, Maps.has D (kl s) = (F s).isSome) (x s : ByteArray) :
    Maps.has (D.del (kl x)) (kl s) = (upd F x none s).isSome := by
  unfold upd
  by_cases e : s = x
  · subst e
    rw [has_del_same, if_pos rfl]
    rfl
  · rw [has_del_other (fun he => e (kl_inj he)), if_neg e]
    exact h s

theorem del_at {D : DataW (Option Addr)} {F : ByteArray → Option Addr} (h : ∀ s, D.atKey (kl s) (.held none) = .held (F s)) (x s : ByteArray) :
    (D.del (kl x)).atKey (kl s) (.held none) = .held (upd F x none s) := by
  unfold upd
  by_cases e : s = x
  · subst e
    rw [atKey_del_same, if_pos rfl]
  · rw [atKey_del_other (fun he => e (kl_inj he)), if_neg e]
    exact h s

/-- A provider lies in block pb, its lock free, its map in block mb. -/
structure Prov (w : World) (pb mb c : Nat) (F : ByteArray → Option Addr) (N : Nat) : Prop where
  ne : pb ≠ mb
  lt : pb < w.heap.size
  c2 : w.cell? ⟨pb, 2, none⟩ = some (.int .i32 0)
  c4 : w.cell? ⟨pb, 4, none⟩ = some (.map (some mb))
  f2 : w.frozen? ⟨pb, 2, none⟩ = false
  map : PMap w mb c F N

/-- Only the blocks pb and mb have turned. -/
structure Only (w w' : World) (pb mb : Nat) : Prop where
  os : w'.os = w.os
  tape : w'.tape = w.tape
  output : w'.output = w.output
  size : w'.heap.size = w.heap.size
  block : ∀ k, k ≠ pb → k ≠ mb → w'.heap[k]? = w.heap[k]?

theorem Only.cell {w w' : World} {pb mb : Nat} (h : Only w w' pb mb) {b o : Nat} (h1 : b ≠ pb) (h2 : b ≠ mb) : w'.cell? ⟨b, o, none⟩ = w.cell? ⟨b, o, none⟩ := by
  simp only [World.cell?, h.block b h1 h2]
theorem Only.frozen {w w' : World} {pb mb : Nat} (h : Only w w' pb mb) {b o : Nat} (h1 : b ≠ pb) (h2 : b ≠ mb) : w'.frozen? ⟨b, o, none⟩ = w.frozen? ⟨b, o, none⟩ := by
  simp only [World.frozen?, h.block b h1 h2]
theorem Only.below {w w' : World} {pb mb B : Nat} (h : Only w w' pb mb) (h1 : B ≤ pb) (h2 : B ≤ mb) : Below B w w' :=
  ⟨h.os, h.tape, h.output, Nat.le_of_eq h.size.symm, fun k hk => h.block k (by omega) (by omega)⟩

/-! ### The small functions -/
set_option maxRecDepth 100000 in
set_option maxHeartbeats 400000 in
theorem newProvider6 (w : World) :
    Calls Try.prog 6 #[] w fun e w' => e = .returned (.pointer (some ⟨w.heap.size + 1, 0, none⟩)) ∧
      (w.alloc (.map #[] 0)).alloc (.cells #[.string ⟨#[]⟩, .pointer none, .int .i32 0, .int .u32 0, .map (some w.heap.size), .int .i64 0] 45) = w' := by
  have hmm := @run_makeMap Try.prog
  go_enter Try.func6, Try.ntmps6
  go_wp2
  go_ret
  exact ⟨rfl, rfl⟩

set_option maxRecDepth 100000 in
set_option maxHeartbeats 400000 in
theorem newKey7 (w : World) :
    Calls Try.prog 7 #[] w fun e w' => e = .returned (.pointer (some ⟨w.heap.size, 0, none⟩)) ∧ w.alloc (.cells #[.pointer none, .int .i64 0] 48) = w' := by
  go_enter Try.func7, Try.ntmps7
  go_wp2
  go_ret
  exact ⟨rfl, rfl⟩

set_option maxRecDepth 100000 in
set_option maxHeartbeats 400000 in
theorem has9 (w : World) (pb mb c : Nat) (F : ByteArray → Option Addr) (N : Nat) (s : ByteArray) (hs : s.size ≤ maxLen) (h : Prov w pb mb c F N) :
    Calls Try.prog 9 #[.pointer (some ⟨pb, 0, none⟩), .string s] w fun e w' => e = .returned (.bool (F s).isSome) ∧ w' = w := by
  obtain ⟨n, D, hn, ho, hh, ha, hsz⟩ := h.map
  obtain ⟨v, ps, hrun, hv⟩ := ho.look_ok (t := 35) law Try.underlying35 (zero29 w) (R_mk none) (keyOf_string_mk Try.underlying9 hs)
  have c4 := h.c4
  rw [show Maps.has D (Lit.string s.data.toList) = (F s).isSome from hh s] at hrun
  clear hh ha hsz ho hv h
  go_enter Try.func9, Try.ntmps9
  go_wp2
  go_ret
  exact ⟨rfl, rfl⟩

set_option maxRecDepth 100000 in
set_option maxHeartbeats 400000 in
theorem lookup10 (w : World) (pb mb c : Nat) (F : ByteArray → Option Addr) (N : Nat) (s : ByteArray) (hs : s.size ≤ maxLen) (h : Prov w pb mb c F N) :
    Calls Try.prog 10 #[.pointer (some ⟨pb, 0, none⟩), .string s] w fun e w' => e = .returned (.pointer (F s)) ∧ w' = w := by
  obtain ⟨n, D, hn, ho, hh, ha, hsz⟩ := h.map
  obtain ⟨v, ps, hrun, hv⟩ := ho.lookup (t := 35) law Try.underlying35 (zero29 w) (R_mk none) (keyOf_string_mk Try.underlying9 hs)
  obtain ⟨p, rfl, hp⟩ := R_inv hv
  have e : p = F s := by
    have := (ha s).symm.trans hp
    injection this with this
    exact this.symm
  subst e
  have c4 := h.c4
  clear hh ha hsz ho hv h hp
  go_enter Try.func10, Try.ntmps10
  go_wp2
  go_ret
  exact ⟨rfl, rfl⟩

set_option maxRecDepth 100000 in
set_option maxHeartbeats 400000 in
theorem count11 (w : World) (pb mb c : Nat) (F : ByteArray → Option Addr) (N : Nat) (h : Prov w pb mb c F N) :
    Calls Try.prog 11 #[.pointer (some ⟨pb, 0, none⟩)] w fun e w' => e = .returned (.int .i64 N) ∧ w' = w := by
  obtain ⟨n, D, hn, ho, hh, ha, hsz⟩ := h.map
  have c4 := h.c4
  subst hsz
  clear hh ha h
  go_enter Try.func11, Try.ntmps11
  go_wp2_with (at_len; refine wpList_len_own _ rfl _ 35 rfl 9 29 Try.underlying35 _ mb n D rfl ho ?_)
  go_ret
  exact ⟨rfl, rfl⟩
end Go.Proofs.Qxb6627640a
