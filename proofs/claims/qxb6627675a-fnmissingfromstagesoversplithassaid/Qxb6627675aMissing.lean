import Derived.Test.Qxb6627675aSmall
import Derived.Maps.Own
import Derived.Maps.OwnOps
import Derived.Maps.OwnSet
import Derived.Maps.Views
namespace Go.Proofs.Qxb6627675a
open Go.RowKit Go.WideMaps Go.Maps
set_option linter.unusedSimpArgs false

theorem Try.info9 : (Try.prog.info? 9).map (fun i => (i.zero, i.size, i.bytes)) = some (some (.string ⟨#[]⟩), 1, 16) := by kernel_rfl

/-- How an element of the map reads, for the proof alone. -/
def R (v : Value) : Option (DataW Unit × List MemPlace) :=
  match v with
  | .bool b => some (.lit (.bool b), [])
  | _ => none
theorem R_mk (b : Bool) : R (.bool b) = some (.lit (.bool b), []) := rfl
theorem R_inv {v : Value} {d : DataW Unit} {ps : List MemPlace} (h : R v = some (d, ps)) : ∃ b, v = .bool b ∧ d = .lit (.bool b) := by
  unfold R at h
  split at h
  · rename_i p
    simp only [Option.some.injEq, Prod.mk.injEq] at h
    exact ⟨p, rfl, h.1.symm⟩
  · cases h

def kl (s : ByteArray) : Lit := .string s.data.toList
theorem kl_inj {a b : ByteArray} (h : kl a = kl b) : a = b := by
  unfold kl at h
  injection h with h
  exact WideShapes.bytes_inj h
theorem law : Keyed Try.prog 9 := string_keyed Try.underlying9
theorem zero4 (w : World) : (zeroValue 4).run Try.prog w = .ok (.bool false) w := by kernel_rfl
theorem isKey_kl (s : ByteArray) : WideAt.IsKeyLit (kl s) := by
  unfold kl WideAt.IsKeyLit
  simp

/-- Block mb is a set that holds just what S says. -/
def PSet (w : World) (mb c : Nat) (S : ByteArray → Bool) : Prop :=
  ∃ n D, n ≤ c ∧ w.ownsMap Try.prog 9 R mb n D ∧ (∀ s, D.atKey (kl s) (.lit (.bool false)) = .lit (.bool (S s)))

theorem PSet.of {w w' : World} {mb c : Nat} {S : ByteArray → Bool} (h : PSet w mb c S) (e : w'.heap[mb]? = w.heap[mb]?) : PSet w' mb c S := by
  obtain ⟨n, D, hn, ⟨es, ck, hb, hF, hsz, hD⟩, r⟩ := h
  exact ⟨n, D, hn, ⟨es, ck, e.trans hb, hF, hsz, hD⟩, r⟩

theorem PSet.lt {w : World} {mb c : Nat} {S : ByteArray → Bool} (h : PSet w mb c S) : mb < w.heap.size := by
  obtain ⟨n, D, _, ho, _⟩ := h
  exact ho.lt

theorem PSet.empty (w : World) : PSet (w.alloc (.map #[] 0)) w.heap.size 0 (fun s => inL s []) :=
  ⟨0, .map [], Nat.le_refl _, World.ownsMap_made w _ _ _, fun _ => rfl⟩

theorem put_at {D : DataW Unit} {l : List ByteArray} (hD : IsMap D) (h : ∀ s, D.atKey (kl s) (.lit (.bool false)) = .lit (.bool (inL s l))) (x s : ByteArray) :
    (D.put (kl x) (.lit (.bool true))).atKey (kl s) (.lit (.bool false)) = .lit (.bool (inL s (l ++ [x]))) := by
  by_cases e : s = x
  · subst e
    rw [atKey_put_same hD (isKey_kl _), inL_iff.2 (by simp)]
  · rw [atKey_put_other (fun he => e (kl_inj he)), h s]
    have : inL s (l ++ [x]) = inL s l := by
      unfold inL
      rw [List.any_append]
      have hx : decide (x = s) = false := decide_eq_false (fun he => e he.symm)
      simp [hx]
    rw [this]

/-- What is missing. -/
def miss (ns hs : List ByteArray) : List ByteArray := ns.filter fun s => !inL s hs
theorem miss_snoc_yes {ns hs : List ByteArray} {s : ByteArray} (h : inL s hs = false) : miss (ns ++ [s]) hs = miss ns hs ++ [s] := by simp [miss, h]
theorem miss_snoc_no {ns hs : List ByteArray} {s : ByteArray} (h : inL s hs = true) : miss (ns ++ [s]) hs = miss ns hs := by simp [miss, h]
theorem miss_le (ns hs : List ByteArray) : (miss ns hs).length ≤ ns.length := List.length_filter_le _ _

theorem strs_of_owns {w : World} {base : Nat} {v : Value} {l : List ByteArray} (h : w.ownsRow base 9 1 v l.length (l.map Value.string)) (hz : ∀ s ∈ l, s.size ≤ maxLen) :
    ∃ ao cap, v = .slice ao l.length cap ∧ (ao = none → l.length = 0) ∧ StrsAt w ao l.length fun j => l.getD j e0 := by
  have h' := h
  obtain ⟨_, ⟨rfl, h2⟩ | ⟨g, cap, cur, rfl, hb, hg, hc, hm, hs, ht⟩⟩ := h
  · exact ⟨none, 0, by rw [h2], fun _ => h2, fun k hk => absurd hk (by omega)⟩
  · refine ⟨_, cap, rfl, (by intro e; cases e), fun k hk => ⟨g, 0, rfl, ?_, ?_, (h'.lt g rfl).2⟩⟩
    · rw [Nat.zero_add, h'.cellAt _ (by omega)]
      simp [List.getD, List.getElem?_eq_getElem hk]
    · show (l.getD k e0).size ≤ maxLen
      rw [List.getD_eq_getElem?_getD, List.getElem?_eq_getElem hk]
      exact hz _ (List.getElem_mem hk)

set_option maxRecDepth 100000 in
set_option maxHeartbeats 1000000 in
theorem missing7 (a1 a2 : Option Addr) (n1 c1 n2 c2 : Nat) (m1 m2 : Nat → ByteArray) (w : World) (h1 : n1 ≤ 1048576) (h2 : n2 ≤ 1048576) (hM1 : StrsAt w a1 n1 m1) (hM2 : StrsAt w a2 n2 m2) :
    Calls Try.prog 7 #[.slice a1 n1 c1, .slice a2 n2 c2] w fun e w' => (∃ ao cap, e = .returned (.slice ao (miss (lst n1 m1) (lst n2 m2)).length cap) ∧ (ao = none → (miss (lst n1 m1) (lst n2 m2)).length = 0) ∧
      StrsAt w' ao (miss (lst n1 m1) (lst n2 m2)).length fun j => (miss (lst n1 m1) (lst n2 m2)).getD j e0) ∧ Below w.heap.size w w' := by
  obtain ⟨i0, hi, hz0, hz1, hz2⟩ := info_parts Try.info9
  have hmm := @run_makeMap Try.prog
  go_enter Try.func7, Try.ntmps7
  go_wp2
  go_loopw [14] (fun i wr => ∃ k : Nat, k ≤ n2 ∧ i = .int .i64 k ∧ PSet wr w.heap.size k (fun s => inL s (lst k m2)) ∧ Below w.heap.size w wr) (fun i _ => n2 - (intOf i).toNat)
  case atStart => exact ⟨0, by omega, rfl, PSet.empty w, (Below.refl _ _).alloc (Nat.le_refl _) _⟩
  case round =>
    obtain ⟨k, hk, rfl, hset, hB⟩ := hrel
    by_cases hlt : k < n2
    · obtain ⟨b, off, rfl, cc', z0, hbl⟩ := hM2 k hlt
      have cc := (hB.cell (p := ⟨b, off + k, none⟩) hbl).trans cc'
      obtain ⟨n, D, hn, ho, hat⟩ := hset
      have hat' := put_at ho.isMap hat (m2 k)
      rw [← lst_succ] at hat'
      have HA : Hid _ := hat'
      clear hM1 hM2 cc' hat hat'
      go_wp2_with (at_mapUpdate; refine wpList_mapUpdate_own _ rfl _ _ _ 28 rfl 9 4 law Try.underlying28 R w.heap.size n D rfl ho (by unfold maxLen; omega) _ _ (kl (m2 k)) rfl rfl (keyOf_string_mk Try.underlying9 z0) _ [] (R_mk true) ?_; intro w1 ho1 hg1)
      go_roundw
      case rel => exact ⟨k + 1, by omega, by go_num, ⟨n + 1, _, by omega, ho1, HA.out⟩, hB.grown hg1 hB.size (fun j hj => by cases hj; exact Nat.le_refl _)⟩
      case measure => simp [intOf]; omega
    · obtain rfl : k = n2 := by omega
      clear hM2
      have hml := hset.lt
      have hset0 := hset
      have hB0 := hB
      go_wp2
      go_loopw [8, 23] (fun v i wr => ∃ k1 : Nat, k1 ≤ n1 ∧ i = .int .i64 k1 ∧ wr.ownsRow (w.heap.size + 1) 9 1 v (miss (lst k1 m1) (lst k m2)).length ((miss (lst k1 m1) (lst k m2)).map Value.string) ∧ PSet wr w.heap.size k (fun s => inL s (lst k m2)) ∧ Below w.heap.size w wr) (fun _ i _ => n1 - (intOf i).toNat)
      case atStart => exact ⟨0, by omega, rfl, World.ownsRow_nil _ _ _ _, hset0, hB0⟩
      case round =>
        clear hset0 hB0 hset hB hml
        obtain ⟨k1, hk1, rfl, hown, hset, hB⟩ := hrel
        by_cases hlt1 : k1 < n1
        · obtain ⟨b, off, rfl, cc', z0, hbl⟩ := hM1 k1 hlt1
          have cc := (hB.cell (p := ⟨b, off + k1, none⟩) hbl).trans cc'
          have hml := hset.lt
          have hset' := hset
          obtain ⟨n, D, hn, ho, hat⟩ := hset'
          obtain ⟨v, ps, hrun, hv⟩ := ho.lookup (t := 28) law Try.underlying28 (zero4 wr) (R_mk false) (keyOf_string_mk Try.underlying9 z0)
          obtain ⟨bb, rfl, hbb⟩ := R_inv hv
          have hbe : bb = inL (m1 k1) (lst k m2) := by
            have := (hat (m1 k1)).symm.trans hbb
            injection this with this
            injection this with this
            exact this.symm
          have hmle := miss_le (lst k1 m1) (lst k m2)
          rw [lst_length] at hmle
          have hls := lst_succ k1 m1
          clear hM1 hv hbb hat ho cc'
          cases hbq : inL (m1 k1) (lst k m2) with
          | true =>
            rw [hbq] at hbe
            subst hbe
            have HE : Hid (miss (lst (k1 + 1) m1) (lst k m2) = miss (lst k1 m1) (lst k m2)) := by rw [hls]; exact miss_snoc_no hbq
            clear hls hbq
            go_wp2
            go_roundw
            case rel => exact ⟨k1 + 1, by omega, by go_num, by rw [HE.out]; exact hown, hset, hB⟩
            case measure => simp [intOf]; omega
          | false =>
            rw [hbq] at hbe
            subst hbe
            have HE : Hid (miss (lst (k1 + 1) m1) (lst k m2) = miss (lst k1 m1) (lst k m2) ++ [m1 k1]) := by rw [hls]; exact miss_snoc_yes hbq
            clear hls hbq
            go_wp2_with (at_builtin; refine wpList_append_own _ rfl _ _ 22 rfl (w.heap.size + 1) 9 i0 _ 1 16 Try.underlying22 hi hz0 hz1 hz2 rfl (by decide) _ _ _ rfl (hown.alloc _) ⟨wr.heap.size, 0, none⟩ 1 1 [.string (m1 k1)] rfl rfl ?c1 ?c2 ?c3 ?c4 ?c5 ?_)
            · exact cell_one_new _ _ _
            · intro u hu; simp at hu; subst hu; rfl
            · unfold maxLen; omega
            · omega
            · simp; omega
            · intro v' w' hown' hgr _
              have hown2 : w'.ownsRow (w.heap.size + 1) 9 1 v' (miss (lst (k1 + 1) m1) (lst k m2)).length ((miss (lst (k1 + 1) m1) (lst k m2)).map Value.string) := by
                rw [HE.out]; simpa using hown'
              have hrow : ∀ j, Value.ownBlock _ = some j → w.heap.size + 1 ≤ j := fun j hj => (hown.lt j hj).1
              have hB2 : Below w.heap.size w w' := (hB.alloc hB.size _).grown hgr (by have := hB.size; simp; omega) (fun j hj => by have := hrow j hj; omega)
              have hset2 : PSet w' w.heap.size k (fun s => inL s (lst k m2)) := hset.of ((hgr.block _ (by simp; omega) (fun e => by have := hrow _ e.symm; omega)).trans (Below.heap_alloc _ _ _ hml))
              clear hown' hgr cc hrun hset hB hown
              go_wp2
              go_roundw
              case rel => exact ⟨k1 + 1, by omega, by go_num, hown2, hset2, hB2⟩
              case measure => simp [intOf]; omega
        · obtain rfl : k1 = n1 := by omega
          have hsz : ∀ s ∈ miss (lst k1 m1) (lst k m2), s.size ≤ maxLen := by
            intro s hs
            obtain ⟨j, hj, rfl⟩ := mem_lst.1 (List.mem_filter.1 hs).1
            obtain ⟨_, _, _, _, z, _⟩ := hM1 j hj
            exact z
          obtain ⟨ao', cap', rfl, hn', hMs⟩ := strs_of_owns hown hsz
          clear hM1 hown hset hsz
          go_wp2
          go_ret
          exact ⟨⟨ao', cap', rfl, hn', hMs⟩, hB⟩

/-- A row of strings that is being filled. -/
structure Fill (wr : World) (g n k : Nat) (J : Nat → ByteArray) : Prop where
  lt : g < wr.heap.size
  there : ∀ j, j < n → ∃ v, wr.cell? ⟨g, j, none⟩ = some v
  frz : ∀ j, wr.frozen? ⟨g, j, none⟩ = false
  cells : ∀ j, j < k → wr.cell? ⟨g, j, none⟩ = some (.string (J j))

theorem Fill.step {wr : World} {g n k : Nat} {J : Nat → ByteArray} {s : ByteArray} (h : Fill wr g n k J) (hk : k < n) (hs : s = J k) : Fill (wr.setCell ⟨g, k, none⟩ (.string s)) g n (k + 1) J := by
  subst hs
  have key : ∀ j v, wr.cell? ⟨g, j, none⟩ = some v → (wr.setCell ⟨g, k, none⟩ (.string (J k))).cell? ⟨g, j, none⟩ = some (if j = k then .string (J k) else v) := by
    intro j v hv
    by_cases e : j = k
    · subst e; rw [if_pos rfl]; exact World.cell?_setCell_same _ _ _ hv
    · rw [if_neg e, World.cell?_setCell_other _ _ _ _ (by intro he; injection he with _ he; exact e he.symm)]; exact hv
  refine ⟨by have := h.lt; simp [World.setCell]; omega, fun j hj => ?_, fun j => by rw [World.frozen?_setCell]; exact h.frz j, fun j hj => ?_⟩
  · obtain ⟨v, hv⟩ := h.there j hj
    exact ⟨_, key j v hv⟩
  · by_cases e : j = k
    · obtain ⟨v, hv⟩ := h.there j (by omega)
      rw [key j v hv, if_pos e, e]
    · rw [key j _ (h.cells j (by omega)), if_neg e]

theorem Fill.of_owns {w : World} {base g n cap : Nat} {xs : List Value} {J : Nat → ByteArray} (h : w.ownsRow base 9 1 (.slice (some ⟨g, 0, none⟩) n cap) n xs) : Fill w g n 0 J :=
  ⟨(h.lt g rfl).2, fun j hj => ⟨_, (h.cellAt j (by omega)).trans (List.getElem?_eq_getElem (by have := h.1; omega))⟩, fun j => h.frozenAt j, fun j hj => absurd hj (by omega)⟩

/-- a, then b. -/
def jn (n1 : Nat) (m1 m2 : Nat → ByteArray) (j : Nat) : ByteArray := if j < n1 then m1 j else m2 (j - n1)
theorem lst_jn (n1 n2 : Nat) (m1 m2 : Nat → ByteArray) : lst (n1 + n2) (jn n1 m1 m2) = lst n1 m1 ++ lst n2 m2 := by
  induction n2 with
  | zero =>
    simp only [Nat.add_zero]
    unfold lst
    simp only [List.range_zero, List.map_nil, List.append_nil]
    apply List.map_congr_left
    intro j hj
    unfold jn
    rw [if_pos (by simpa using hj)]
  | succ n ih =>
    rw [show n1 + (n + 1) = (n1 + n) + 1 by omega, lst_succ, lst_succ, ih, List.append_assoc]
    have : jn n1 m1 m2 (n1 + n) = m2 n := by
      unfold jn
      rw [if_neg (by omega), show n1 + n - n1 = n by omega]
    rw [this]

set_option maxRecDepth 100000 in
set_option maxHeartbeats 1000000 in
theorem join10 (a1 a2 : Option Addr) (n1 c1 n2 c2 : Nat) (m1 m2 : Nat → ByteArray) (w : World) (h1 : n1 ≤ 1048576) (h2 : n2 ≤ 1048576) (hM1 : StrsAt w a1 n1 m1) (hM2 : StrsAt w a2 n2 m2) :
    Calls Try.prog 10 #[.slice a1 n1 c1, .slice a2 n2 c2] w fun e w' => (∃ ao, e = .returned (.slice ao (n1 + n2) (n1 + n2)) ∧ StrsAt w' ao (n1 + n2) (jn n1 m1 m2)) ∧ Below w.heap.size w w' := by
  obtain ⟨i0, hi, hz0, hz1, hz2⟩ := info_parts Try.info9
  have hj1 : ∀ j, j < n1 → m1 j = jn n1 m1 m2 j := fun j hj => by unfold jn; rw [if_pos hj]
  have hj2 : ∀ j, m2 j = jn n1 m1 m2 (n1 + j) := fun j => by unfold jn; rw [if_neg (by omega), show n1 + j - n1 = j by omega]
  have HJ1 : Hid _ := hj1
  have HJ2 : Hid _ := hj2
  have HZ : Hid (∀ j, j < n1 + n2 → (jn n1 m1 m2 j).size ≤ maxLen) := by
    intro j hj
    by_cases e : j < n1
    · rw [← hj1 j e]
      obtain ⟨_, _, _, _, z, _⟩ := hM1 j e
      exact z
    · have := hj2 (j - n1)
      rw [show n1 + (j - n1) = j by omega] at this
      rw [← this]
      obtain ⟨_, _, _, _, z, _⟩ := hM2 (j - n1) (by omega)
      exact z
  clear hj1 hj2
  generalize jn n1 m1 m2 = J at HJ1 HJ2 HZ ⊢
  go_enter Try.func10, Try.ntmps10
  go_wp2_with (at_make; refine wpList_make_full _ rfl _ _ 22 rfl w.heap.size 9 i0 _ 1 Try.underlying22 hi hz0 hz1 _ _ _ _ (n1 + n2) rfl rfl (by omega) (by omega) ?b2 ?b3 ?b4 ?_)
  · rw [hz2]; omega
  · unfold maxLen; omega
  · exact Nat.le_refl _
  intro w1 hown hgr
  have hfill : Fill w1 w.heap.size (n1 + n2) 0 J := Fill.of_owns hown
  have hB1 : Below w.heap.size w w1 := (Below.refl _ _).grown hgr (Nat.le_refl _) (by intro k h; cases h)
  clear hown hgr
  go_wp2
  go_loopw [6] (fun i wr => ∃ k : Nat, k ≤ n1 ∧ i = .int .i64 k ∧ Fill wr w.heap.size (n1 + n2) k J ∧ Below w.heap.size w wr) (fun i _ => n1 - (intOf i).toNat)
  case atStart => exact ⟨0, by omega, rfl, hfill, hB1⟩
  case round =>
    clear hfill hB1
    obtain ⟨k, hk, rfl, hfill, hB⟩ := hrel
    by_cases hlt : k < n1
    · obtain ⟨b, off, rfl, cc', z0, hbl⟩ := hM1 k hlt
      have cc := (hB.cell (p := ⟨b, off + k, none⟩) hbl).trans cc'
      obtain ⟨vv, g0⟩ := hfill.there k (by omega)
      have gf := hfill.frz k
      clear hM1 hM2 cc'
      go_wp2
      go_roundw
      case rel => exact ⟨k + 1, by omega, by go_num, hfill.step (by omega) (HJ1.out k hlt), hB.setCell (p := ⟨w.heap.size, k, none⟩) (Nat.le_refl _) _⟩
      case measure => simp [intOf]; omega
    · obtain rfl : k = n1 := by omega
      clear hM1
      have hf0 := hfill
      have hb0 := hB
      go_wp2
      go_loopw [7] (fun i wr => ∃ k2 : Nat, k2 ≤ n2 ∧ i = .int .i64 k2 ∧ Fill wr w.heap.size (k + n2) (k + k2) J ∧ Below w.heap.size w wr) (fun i _ => n2 - (intOf i).toNat)
      case atStart => exact ⟨0, by omega, rfl, hf0, hb0⟩
      case round =>
        clear hf0 hb0 hfill hB
        obtain ⟨k2, hk2, rfl, hfill, hB⟩ := hrel
        by_cases hlt2 : k2 < n2
        · obtain ⟨b, off, rfl, cc', z0, hbl⟩ := hM2 k2 hlt2
          have cc := (hB.cell (p := ⟨b, off + k2, none⟩) hbl).trans cc'
          obtain ⟨vv, g0⟩ := hfill.there (k + k2) (by omega)
          have gf := hfill.frz (k + k2)
          clear hM2 cc'
          go_wp2
          go_roundw
          case rel => exact ⟨k2 + 1, by omega, by go_num, hfill.step (by omega) (HJ2.out k2), hB.setCell (p := ⟨w.heap.size, k + k2, none⟩) (Nat.le_refl _) _⟩
          case measure => simp [intOf]; omega
        · obtain rfl : k2 = n2 := by omega
          clear hM2
          go_wp2
          go_ret
          exact ⟨⟨_, rfl, fun j hj => ⟨w.heap.size, 0, rfl, by rw [Nat.zero_add]; exact hfill.cells j hj, HZ.out j hj, hfill.lt⟩⟩, hB⟩
end Go.Proofs.Qxb6627675a
