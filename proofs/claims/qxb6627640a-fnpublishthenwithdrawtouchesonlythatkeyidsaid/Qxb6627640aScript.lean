import Derived.Test.Qxb6627640aBytes
import Derived.Deep.QuietTactic
import Derived.BigQuiet
import Derived.Deep.RegionWith
import Derived.BigRegion
import Derived.Lib.Builder
namespace Go.Proofs.Qxb6627640a
open Go.RowKit Go.WideMaps Go.Maps Go.MuLone
set_option linter.unusedSimpArgs false

theorem Try.info29 : (Try.prog.info? 29).map (fun i => (i.zero, i.size, i.bytes)) = some (some (.pointer none), 1, 8) := by kernel_rfl

theorem publish8 (w : World) (pb mb c : Nat) (F : ByteArray → Option Addr) (N : Nat) (s : ByteArray) (p : Option Addr) (hs : s.size ≤ maxLen) (hc : c < maxLen) (h : Prov w pb mb c F N) :
    Calls Try.prog 8 #[.pointer (some ⟨pb, 0, none⟩), .string s, .pointer p] w fun e w' => e = .returned (.tuple #[]) ∧
      Prov w' pb mb (c + 1) (upd F s p) (cstep F N s p) ∧ Only w w' pb mb := by
  cases p with
  | none => exact publish_none w pb mb c F N s hs h
  | some a => exact publish_some w pb mb c F N s a hs hc h

theorem Prov.drew {w : World} {pb mb c : Nat} {F : ByteArray → Option Addr} {N : Nat} (h : Prov w pb mb c F N) : Prov w.drew pb mb c F N := ⟨h.ne, h.lt, h.c2, h.c4, h.f2, h.map⟩
theorem Only.undrew {w w' : World} {pb mb : Nat} (h : Only w.drew w' pb mb) : Only w w' pb mb := ⟨h.os, h.tape, h.output, h.size, h.block⟩
theorem Prov.drewN {w : World} {pb mb c : Nat} {F : ByteArray → Option Addr} {N : Nat} (h : Prov w pb mb c F N) (n : Nat) : Prov (w.drewN n) pb mb c F N := ⟨h.ne, h.lt, h.c2, h.c4, h.f2, h.map⟩
theorem Prov.below {w w' : World} {pb mb c B : Nat} {F : ByteArray → Option Addr} {N : Nat} (h : Prov w pb mb c F N) (hb : Below B w w') (h1 : pb < B) (h2 : mb < B) : Prov w' pb mb c F N :=
  ⟨h.ne, Nat.lt_of_lt_of_le h.lt hb.size, (hb.cell (p := ⟨pb, 2, none⟩) h1).trans h.c2, (hb.cell (p := ⟨pb, 4, none⟩) h1).trans h.c4, (hb.frozen (p := ⟨pb, 2, none⟩) h1).trans h.f2, h.map.of (hb.block mb h2)⟩

theorem Room_of {w : World} {base e size g n cap : Nat} {xs : List Value} (h : w.ownsRow base e size (.slice (some ⟨g, 0, none⟩) n cap) n xs) : g < w.heap.size := (h.lt g rfl).2

/-- The state of the script after k steps. -/
structure St (w0 wr : World) (pb mb kb len k : Nat) (Ks : Nat → ByteArray) (Pu : Nat → Bool) (Kp : Nat → Option Addr) : Prop where
  prov : Prov wr pb mb k (Fk Ks Kp k) (Nk Ks Kp k)
  keys : ∀ j, j < len → wr.cell? ⟨kb, j, none⟩ = some (.pointer (Kp j))
  kfrz : ∀ j, wr.frozen? ⟨kb, j, none⟩ = false
  klt : kb < wr.heap.size
  nil : ∀ j, k ≤ j → Kp j = none
  pub : ∀ j, j < k → (Kp j).isSome = Pu j
  below : Below w0.heap.size w0 wr

/-- One step: the key is laid (or not), then Publish. -/
theorem St.step {w0 wr W w' : World} {pb mb kb len k : Nat} {Ks : Nat → ByteArray} {Pu : Nat → Bool} {Kp : Nat → Option Addr} {p : Option Addr} (h : St w0 wr pb mb kb len k Ks Pu Kp)
    (hpb : w0.heap.size ≤ pb) (hmb : w0.heap.size ≤ mb) (hkp : kb ≠ pb) (hkm : kb ≠ mb) (hp : p.isSome = Pu k)
    (hkeys : ∀ j, j < len → W.cell? ⟨kb, j, none⟩ = some (.pointer (if j = k then p else Kp j))) (hkfrz : ∀ j, W.frozen? ⟨kb, j, none⟩ = false) (hklt : kb < W.heap.size) (hbel : Below w0.heap.size w0 W)
    (hprov : Prov w' pb mb (k + 1) (upd (Fk Ks Kp k) (Ks k) p) (cstep (Fk Ks Kp k) (Nk Ks Kp k) (Ks k) p)) (hO : Only W w' pb mb) :
    St w0 w' pb mb kb len (k + 1) Ks Pu (fun j => if j = k then p else Kp j) := by
  have e1 : Fk Ks (fun j => if j = k then p else Kp j) k = Fk Ks Kp k := Fk_congr (fun j hj => if_neg (by omega))
  have e2 : Nk Ks (fun j => if j = k then p else Kp j) k = Nk Ks Kp k := Nk_congr (fun j hj => if_neg (by omega))
  refine ⟨?_, fun j hj => (hO.cell hkp hkm).trans (hkeys j hj), fun j => (hO.frozen hkp hkm).trans (hkfrz j), by rw [hO.size]; exact hklt, ?_, ?_, hbel.trans (hO.below hpb hmb)⟩
  · rw [Fk, Nk, e1, e2]
    simpa using hprov
  · intro j hj
    show (if j = k then p else Kp j) = none
    rw [if_neg (by omega)]
    exact h.nil j (by omega)
  · intro j hj
    show (if j = k then p else Kp j).isSome = Pu j
    by_cases e : j = k
    · rw [if_pos e, e]; exact hp
    · rw [if_neg e]; exact h.pub j (by omega)

/-- The key has been laid in keys[k]. -/
theorem St.laid {w0 wr W : World} {pb mb kb len k b off : Nat} {Ks : Nat → ByteArray} {Pu : Nat → Bool} {Kp : Nat → Option Addr} {pk : Option Addr} {o : Obj} {s : ByteArray} (h : St w0 wr pb mb kb len k Ks Pu Kp) (hk : k < len)
    (hkp : pb < kb) (hkm : mb < kb) (hbl : b < wr.heap.size) (hbk : b ≠ kb) (hw0 : w0.heap.size ≤ kb) (c0 : wr.cell? ⟨b, off, none⟩ = some (.string s)) (hW : W = (wr.setCell ⟨kb, k, none⟩ (.pointer pk)).alloc o) :
    Prov W pb mb k (Fk Ks Kp k) (Nk Ks Kp k) ∧ (∀ j, j < len → W.cell? ⟨kb, j, none⟩ = some (.pointer (if j = k then pk else Kp j))) ∧ (∀ j, W.frozen? ⟨kb, j, none⟩ = false) ∧ kb < W.heap.size ∧ Below w0.heap.size w0 W ∧
      W.cell? ⟨b, off, none⟩ = some (.string s) := by
  subst hW
  have hs : (wr.setCell ⟨kb, k, none⟩ (.pointer pk)).heap.size = wr.heap.size := by simp [World.setCell]
  have hkl := h.klt
  have hb0 : Below kb wr (wr.setCell ⟨kb, k, none⟩ (.pointer pk)) := (Below.refl _ _).setCell (p := ⟨kb, k, none⟩) (Nat.le_refl _) _
  have hb : Below kb wr ((wr.setCell ⟨kb, k, none⟩ (.pointer pk)).alloc o) := hb0.alloc (by rw [hs]; omega) o
  refine ⟨h.prov.below hb hkp hkm, ?_, ?_, by simp [World.setCell]; omega, ?_, ?_⟩
  · intro j hj
    rw [World.cell?_alloc_past _ _ _ (by omega)]
    by_cases e : j = k
    · subst e
      rw [if_pos rfl]
      exact World.cell?_setCell_same _ _ _ (h.keys j hj)
    · rw [if_neg e, World.cell?_setCell_other _ _ _ _ (by intro he; injection he with _ he; exact e he.symm)]
      exact h.keys j hj
  · intro j
    rw [World.frozen?_alloc_old _ _ _ (show kb ≠ _ by omega), World.frozen?_setCell]
    exact h.kfrz j
  · exact h.below.trans (hb.mono hw0)
  · rw [World.cell?_alloc_past _ _ _ (by omega), World.cell?_setCell_other _ _ _ _ (by intro he; injection he with he _; exact hbk he.symm)]
    exact c0

theorem neq_same (w : World) (p : Option Addr) : (binOp .neq 29 (.pointer p) (.pointer p)).run Try.prog w = .ok (.bool false) w := by
  cases p with
  | none => simpa using run_neq_pointer_nil (P := Try.prog) (w := w) 29 none (by kernel_rfl)
  | some a =>
    have h48 : (Try.prog.info? 48).isSome = true := by kernel_rfl
    obtain ⟨j, hj⟩ := Option.isSome_iff_exists.1 h48
    exact Lib.run_neq_ptr_same (P := Try.prog) w a Try.underlying29 hj

theorem quiet_add {P : Program} {f : FuncId} {args : Array Value} {w : World} {a x : Nat} {v : Value}
    (h : Calls P f args (w.drewN (a + x)) fun e w' => e = .returned v ∧ w' = w.drewN (a + x)) : Calls P f args (w.drewN (a + x)) fun e w'' => e = .returned v ∧ ∃ n, w'' = w.drewN (a + n) :=
  h.mono fun _ _ ⟨he, hm⟩ => ⟨he, x, hm⟩
theorem str_eq {a b : ByteArray} (h : (a.toList == b.toList) = true) : a = b := by
  have h' := eq_of_beq h
  rw [ByteArray.toList_eq, ByteArray.toList_eq] at h'
  exact WideShapes.bytes_inj h'
theorem str_ne {a b : ByteArray} (h : (a.toList == b.toList) = false) : a ≠ b := by
  intro e; subst e; simp at h

theorem below_drewN' {B : Nat} {w w' : World} (h : Below B w w') (n : Nat) : Below B w (w'.drewN n) := ⟨h.os, h.tape, h.output, h.size, h.block⟩
theorem not_here {Ks : Nat → ByteArray} {mm k2 : Nat} {s : ByteArray} (h : ∀ j', mm < j' → j' < k2 → Ks j' ≠ s) (hm : Ks mm ≠ s) : ∀ j', mm - 1 < j' → j' < k2 → Ks j' ≠ s := by
  intro j h1 h2
  by_cases e : j = mm
  · subst e; exact hm
  · exact h j (by omega) h2
theorem not_yet {Ks : Nat → ByteArray} {k : Nat} {s : ByteArray} (h : ∀ j, j < k → Ks j ≠ s) (hk : Ks k ≠ s) : ∀ j, j < k + 1 → Ks j ≠ s := by
  intro j hj
  by_cases e : j = k
  · subst e; exact hk
  · exact h j (by omega)

theorem cnt_le (p : Nat → Bool) (n : Nat) : cnt p n ≤ n := by
  induction n with
  | zero => exact Nat.le_refl _
  | succ n ih => rw [cnt]; split <;> omega

set_option maxRecDepth 100000 in
set_option maxHeartbeats 4000000 in
theorem walk3 (id : ByteArray) (ao : Option Addr) (len cap : Nat) (Ks : Nat → ByteArray) (Pu : Nat → Bool) (w : World)
    (hid : id.size ≤ maxLen) (hl : len ≤ maxLen) (hM : OpsAt w ao len Ks Pu) :
    Calls Try.prog 3 #[.slice ao len cap, .string id] w fun e w' => e = .returned (.bool true) ∧ Below w.heap.size w w' := by
  obtain ⟨i0, hi, hz0, hz1, hz2⟩ := info_parts Try.info29
  go_enter Try.func3, Try.ntmps3
  go_wp2_with fail
  refine (bytes5 id ao len cap Ks Pu w hid hl hM).mono ?_
  rintro e w1 ⟨⟨bo, rfl, hshort⟩, rfl⟩
  unfold maxLen at hid hl
  cases bo with
  | false =>
    clear hshort
    go_wp2
    go_ret
    exact ⟨rfl, Below.refl _ _⟩
  | true =>
    have HSH : Hid (∀ j, j < len → (Ks j).size ≤ 1048576) := hshort rfl
    clear hshort
    by_cases h4 : 4096 < len
    · go_wp2
      go_ret
      exact ⟨rfl, Below.refl _ _⟩
    by_cases h20 : 1048576 < id.size
    · go_wp2
      go_ret
      exact ⟨rfl, Below.refl _ _⟩
    go_wp2
    go_loop [5, 6] (fun n i => ∃ (m : Int) (k : Nat), 0 ≤ m ∧ m ≤ 1048576 ∧ k ≤ len ∧ n = .int .i64 m ∧ i = .int .i64 k) (fun _ i => len - (intOf i).toNat)
    case atStart => exact ⟨_, 0, by omega, by omega, by omega, rfl, rfl⟩
    case round =>
      obtain ⟨m, k, hm0, hm1, hk, rfl, rfl⟩ := hrel
      by_cases hlt : k < len
      · obtain ⟨b, off, rfl, c0, c1, z0, _⟩ := hM k hlt
        have hsh := HSH.out k hlt
        unfold maxLen at *
        clear hM
        go_wp2
        · go_ret
          exact ⟨rfl, Below.refl _ _⟩
        · go_round
          case rel => exact ⟨_, k + 1, by omega, by assumption, by omega, rfl, by go_num⟩
          case measure => simp [intOf]; omega
      · go_wp2_with fail
        refine (newProvider6 _).mono ?_
        rintro e w2 ⟨rfl, rfl⟩
        go_wp2_with (at_make; refine wpList_make_full _ rfl _ _ 28 rfl (w1.heap.size + 2) 29 i0 _ 1 Try.underlying28 hi hz0 hz1 _ _ _ _ len rfl rfl rfl rfl ?b2 ?b3 ?b4 ?_)
        · rw [hz2]; omega
        · unfold maxLen; omega
        · simp
        intro w2 hown hgr
        have hb1 : Below (w1.heap.size + 1 + 1) ((w1.alloc (Obj.map #[] 0)).alloc (Obj.cells #[Value.string { data := #[] }, Value.pointer none, Value.int IntKind.i32 0, Value.int IntKind.u32 0, Value.map (some w1.heap.size), Value.int IntKind.i64 0] 45)) w2 :=
          (Below.refl _ _).grown hgr (by simp) (by intro k h; cases h)
        have hst : St w1 w2 (w1.heap.size + 1) w1.heap.size (w1.heap.size + 1 + 1) len 0 Ks Pu (fun _ => none) := by
          refine ⟨?_, ?_, ?_, ?_, fun _ _ => rfl, fun j hj => absurd hj (by omega), ?_⟩
          · exact Prov.below (B := w1.heap.size + 1 + 1) ⟨by omega, by simp, by go_simp, by go_simp, by go_simp, (PMap.empty w1).of (Below.heap_alloc _ _ _ (by simp))⟩ hb1 (by omega) (by omega)
          · intro j hj
            rw [hown.cellAt j (by omega), toList_madeCells_one]
            simp [hj]
          · exact fun j => hown.frozenAt j
          · exact (Room_of hown)
          · exact ((Below.refl _ _).alloc (Nat.le_refl _) _ |>.alloc (by simp) _).trans (hb1.mono (by omega))
        have HST : Hid (∃ Kp, St w1 w2 (w1.heap.size + 1) w1.heap.size (w1.heap.size + 1 + 1) len 0 Ks Pu Kp) := ⟨_, hst⟩
        clear hst hown hgr hb1
        go_wp2
        go_loopw [9] (fun i wr => ∃ (k : Nat) (Kp : Nat → Option Addr), k ≤ len ∧ i = .int .i64 k ∧ St w1 wr (w1.heap.size + 1) w1.heap.size (w1.heap.size + 1 + 1) len k Ks Pu Kp) (fun i _ => len - (intOf i).toNat)
        case atStart =>
          obtain ⟨Kp, h⟩ := HST.out
          exact ⟨0, Kp, by omega, rfl, h⟩
        case round =>
          clear HST
          obtain ⟨k2, Kp, hk2, rfl, hst⟩ := hrel
          by_cases hlt2 : k2 < len
          · obtain ⟨b, off, rfl, c0', c1', z0, hbl⟩ := hM k2 hlt2
            have c0 := (hst.below.cell (p := ⟨b, off + k2 * 2, none⟩) hbl).trans c0'
            have c1 := (hst.below.cell (p := ⟨b, off + k2 * 2 + 1, none⟩) hbl).trans c1'
            have hwz := hst.below.size
            have g0 := hst.keys k2 hlt2
            have gf := hst.kfrz k2
            have hkl := hst.klt
            have hnil := hst.nil k2 (Nat.le_refl _)
            clear hM c0' c1'
            cases hpu : Pu k2 with
            | true =>
              rw [hpu] at c1
              have ca : ∀ o q, (wr.alloc o).cell? ⟨w1.heap.size + 1 + 1, q, none⟩ = wr.cell? ⟨w1.heap.size + 1 + 1, q, none⟩ := fun o q => World.cell?_alloc_past _ _ _ hkl
              have fa : ∀ o q, (wr.alloc o).frozen? ⟨w1.heap.size + 1 + 1, q, none⟩ = false := fun o q => (World.frozen?_alloc_old _ _ _ (show w1.heap.size + 1 + 1 ≠ wr.heap.size by omega)).trans (hst.kfrz q)
              have HPU : Hid _ := hpu
              clear hpu
              go_wp2_with (go_at_call 7; refine (newKey7 _).mono ?_; rintro e w3 ⟨rfl, rfl⟩)
              have hpp : (some (⟨wr.heap.size, 0, none⟩ : Addr)).isSome = Pu k2 := HPU.out.symm
              obtain ⟨pk, hpk⟩ : ∃ pk, pk = some (⟨wr.heap.size, 0, none⟩ : Addr) := ⟨_, rfl⟩
              rw [← hpk] at hpp ⊢
              obtain ⟨W, hW⟩ : ∃ W, W = (wr.setCell ⟨w1.heap.size + 1 + 1, k2, none⟩ (Value.pointer pk)).alloc (Obj.cells #[Value.pointer none, Value.int IntKind.i64 0] 48) := ⟨_, rfl⟩
              rw [← hW]
              have F := St.laid hst hlt2 (by omega) (by omega) (show b < wr.heap.size by omega) (by omega) (by omega) c0 hW
              clear hW hpk g0 gf ca fa c0 c1 hkl hnil
              obtain ⟨hP, hK, hKf, hKl, hBel, c0⟩ := F
              have g0 := hK k2 hlt2
              rw [if_pos rfl] at g0
              go_region_with (go_at_call 8; refine (publish8 _ (w1.heap.size + 1) w1.heap.size k2 _ _ (Ks k2) pk z0 (by unfold maxLen; omega) (by first | exact hP.drew | exact hP)).mono ?_; rintro e w4 ⟨rfl, hP4, hO4⟩)
              all_goals
                have hst' := St.step hst (by omega) (by omega) (by omega) (by omega) hpp hK hKf hKl hBel hP4 hO4.undrew
                clear hP4 hO4 hK hKf hKl hBel hP hst g0 c0
                go_wp2
                go_roundw
                case rel => exact ⟨k2 + 1, _, by omega, by go_num, hst'⟩
                case measure => simp [intOf]; omega
            | false =>
              rw [hpu] at c1
              have HPU : Hid _ := hpu
              clear hpu
              rw [hnil] at g0
              have hpp : (none : Option Addr).isSome = Pu k2 := HPU.out.symm
              have hP := hst.prov
              have hK : ∀ j, j < len → wr.cell? ⟨w1.heap.size + 1 + 1, j, none⟩ = some (.pointer (if j = k2 then none else Kp j)) := by
                intro j hj
                by_cases e : j = k2
                · rw [if_pos e, e]; exact g0
                · rw [if_neg e]; exact hst.keys j hj
              have HK : Hid _ := hK
              clear hK hnil
              go_wp2_with fail
              go_region_with (go_at_call 8; refine (publish8 _ (w1.heap.size + 1) w1.heap.size k2 _ _ (Ks k2) none z0 (by unfold maxLen; omega) (by first | exact hP.drew | exact hP)).mono ?_; rintro e w4 ⟨rfl, hP4, hO4⟩)
              all_goals
                have hst' := St.step hst (by omega) (by omega) (by omega) (by omega) hpp HK.out hst.kfrz hst.klt hst.below hP4 hO4.undrew
                clear hP4 hO4 HK hP hst g0 c0
                go_wp2
                go_roundw
                case rel => exact ⟨k2 + 1, _, by omega, by go_num, hst'⟩
                case measure => simp [intOf]; omega
          · obtain rfl : k2 = len := by omega
            obtain ⟨W, hWr⟩ : ∃ W, W = wr := ⟨_, rfl⟩
            subst hWr
            have hMW := hM.of hst.below
            clear hM
            go_wp2
            go_loopw [10, 11] (fun lv i wr => ∃ k3 q : Nat, k3 ≤ k2 ∧ i = .int .i64 k3 ∧ lv = .int .i64 (cnt (fun i => isLast Ks k2 i && Pu i) k3) ∧ wr = W.drewN q) (fun _ i _ => k2 - (intOf i).toNat)
            case atStart => exact ⟨0, 0, by omega, rfl, rfl, rfl⟩
            case round =>
              obtain ⟨k3, q, hk3, rfl, rfl, rfl⟩ := hrel
              by_cases hlt3 : k3 < k2
              · obtain ⟨b, off, rfl, c0, c1, z0, hbl⟩ := hMW k3 hlt3
                have hcl := cnt_le (fun i => isLast Ks k2 i && Pu i) k3
                have HCN : Hid (cnt (fun i => isLast Ks k2 i && Pu i) (k3 + 1) = cnt (fun i => isLast Ks k2 i && Pu i) k3 + if (isLast Ks k2 k3 && Pu k3) = true then 1 else 0) := rfl
                generalize cnt (fun i => isLast Ks k2 i && Pu i) k3 = cn at hcl HCN ⊢
                go_wp2
                go_loopw [12, 13] (fun la j wr => ∃ mm q : Nat, k3 ≤ mm ∧ mm < k2 ∧ j = .int .i64 mm ∧ la = .int .i64 k3 ∧ Hid (∀ j', mm < j' → j' < k2 → Ks j' ≠ Ks k3) ∧ wr = W.drewN q) (fun _ j _ => (intOf j).toNat)
                case atStart => exact ⟨k2 - 1, q, by omega, by omega, by go_num, rfl, fun j' h1 h2 => absurd h2 (by omega), rfl⟩
                case round =>
                  obtain ⟨mm, q2, hm1, hm2, rfl, rfl, HN, rfl⟩ := hrel
                  obtain ⟨b2, off2, e2, d0, d1, y0, _⟩ := hMW mm hm2
                  injection e2 with e2
                  injection e2 with e3 e4
                  subst e3
                  subst e4
                  by_cases hmk : k3 < mm
                  · go_wp2
                    go_quiet (fail)
                    go_wp2
                    · have he : ((Ks mm).toList == (Ks k3).toList) = true := by assumption
                      have HL : Hid (LastAt Ks k2 (Ks k3) mm) := ⟨hm2, str_eq he, HN.out⟩
                      have hil : isLast Ks k2 k3 = false := by
                        cases hx : isLast Ks k2 k3 with
                        | false => rfl
                        | true => have := ((isLast_iff hlt3).1 hx).uniq HL.out; omega
                      have HC2 : Hid (cnt (fun i => isLast Ks k2 i && Pu i) (k3 + 1) = cn) := by
                        have := HCN.out
                        rw [hil] at this
                        exact this.trans (by simp)
                      clear hil HCN HN
                      have hhas : ∀ n, Calls Try.prog 9 #[.pointer (some ⟨w1.heap.size + 1, 0, none⟩), .string (Ks k3)] (W.drewN n) fun e w' => e = .returned (.bool (Pu mm)) ∧ w' = W.drewN n := fun n => by
                        have h := has9 (W.drewN n) _ _ _ _ _ (Ks k3) z0 (hst.prov.drewN n)
                        rw [Fk_last HL.out, hst.pub mm HL.out.1] at h
                        exact h
                      have hlook : ∀ n, Calls Try.prog 10 #[.pointer (some ⟨w1.heap.size + 1, 0, none⟩), .string (Ks k3)] (W.drewN n) fun e w' => e = .returned (.pointer (Kp mm)) ∧ w' = W.drewN n := fun n => by
                        have h := lookup10 (W.drewN n) _ _ _ _ _ (Ks k3) z0 (hst.prov.drewN n)
                        rw [Fk_last HL.out] at h
                        exact h
                      have HH : Hid _ := hhas
                      have HO : Hid _ := hlook
                      clear hhas hlook
                      have hneq := neq_same
                      have gl := hst.keys mm HL.out.1
                      go_quiet ((go_at_call 9; exact quiet_add (HH.out _)))
                      go_wp2_with fail
                      go_quiet ((go_at_call 10; exact quiet_add (HO.out _)))
                      go_wp2
                      go_roundw
                      case rel => exact ⟨k3 + 1, _, by omega, by go_num, by rw [HC2.out], rfl⟩
                      case measure => simp [intOf]; omega
                    · have he : ((Ks mm).toList == (Ks k3).toList) = false := by assumption
                      go_roundw
                      case rel => exact ⟨mm - 1, _, by omega, by omega, by go_num, rfl, not_here HN.out (str_ne he), rfl⟩
                      case measure => simp [intOf]; omega
                  · obtain rfl : mm = k3 := by omega
                    have HL : Hid (LastAt Ks k2 (Ks mm) mm) := ⟨hm2, rfl, HN.out⟩
                    have hil : isLast Ks k2 mm = true := (isLast_iff hm2).2 HL.out
                    have HC1 := HCN.out
                    rw [hil] at HC1
                    have HC2 : Hid _ := HC1
                    clear hil HCN HN HC1
                    have hhas : ∀ n, Calls Try.prog 9 #[.pointer (some ⟨w1.heap.size + 1, 0, none⟩), .string (Ks mm)] (W.drewN n) fun e w' => e = .returned (.bool (Pu mm)) ∧ w' = W.drewN n := fun n => by
                      have h := has9 (W.drewN n) _ _ _ _ _ (Ks mm) z0 (hst.prov.drewN n)
                      rw [Fk_last HL.out, hst.pub mm HL.out.1] at h
                      exact h
                    have hlook : ∀ n, Calls Try.prog 10 #[.pointer (some ⟨w1.heap.size + 1, 0, none⟩), .string (Ks mm)] (W.drewN n) fun e w' => e = .returned (.pointer (Kp mm)) ∧ w' = W.drewN n := fun n => by
                      have h := lookup10 (W.drewN n) _ _ _ _ _ (Ks mm) z0 (hst.prov.drewN n)
                      rw [Fk_last HL.out] at h
                      exact h
                    have HH : Hid _ := hhas
                    have HO : Hid _ := hlook
                    clear hhas hlook
                    have hneq := neq_same
                    have gl := hst.keys mm HL.out.1
                    cases hpu : Pu mm with
                    | true =>
                      have HC3 : Hid (cnt (fun i => isLast Ks k2 i && Pu i) (mm + 1) = cn + 1) := HC2.out.trans (by rw [hpu]; simp)
                      clear HC2
                      go_wp2_with fail
                      go_quiet ((go_at_call 9; exact quiet_add (HH.out _)))
                      go_wp2_with fail
                      go_quiet ((go_at_call 10; exact quiet_add (HO.out _)))
                      go_wp2
                      go_roundw
                      case rel => exact ⟨mm + 1, _, by omega, by go_num, by rw [HC3.out]; go_num, rfl⟩
                      case measure => simp [intOf]; omega
                    | false =>
                      have HC3 : Hid (cnt (fun i => isLast Ks k2 i && Pu i) (mm + 1) = cn) := HC2.out.trans (by rw [hpu]; simp)
                      clear HC2
                      go_wp2_with fail
                      go_quiet ((go_at_call 9; exact quiet_add (HH.out _)))
                      go_wp2_with fail
                      go_quiet ((go_at_call 10; exact quiet_add (HO.out _)))
                      go_wp2
                      go_roundw
                      case rel => exact ⟨mm + 1, _, by omega, by go_num, by rw [HC3.out], rfl⟩
                      case measure => simp [intOf]; omega
              · obtain rfl : k3 = k2 := by omega
                have hcount : ∀ n, Calls Try.prog 11 #[.pointer (some ⟨w1.heap.size + 1, 0, none⟩)] (W.drewN n) fun e w' => e = .returned (.int .i64 (cnt (fun i => isLast Ks k3 i && Pu i) k3)) ∧ w' = W.drewN n := fun n => by
                  have h := count11 (W.drewN n) _ _ _ _ _ (hst.prov.drewN n)
                  rw [Nk_live, cnt_congr (q := fun i => isLast Ks k3 i && Pu i) (fun i hi => by rw [hst.pub i hi])] at h
                  exact h
                have HCT : Hid _ := hcount
                clear hcount
                generalize cnt (fun i => isLast Ks k3 i && Pu i) k3 = cn at HCT ⊢
                go_wp2_with (go_at_call 11; refine (HCT.out _).mono ?_; rintro e w' ⟨rfl, rfl⟩)
                go_loop [14, 15] (fun p i => ∃ k5 : Nat, k5 ≤ k3 ∧ p = .bool false ∧ i = .int .i64 k5 ∧ Hid (∀ j, j < k5 → Ks j ≠ id)) (fun _ i => k3 - (intOf i).toNat)
                case atStart => exact ⟨0, by omega, rfl, rfl, fun j hj => absurd hj (by omega)⟩
                case round =>
                  obtain ⟨k5, hk5, rfl, rfl, HN⟩ := hrel
                  by_cases hlt5 : k5 < k3
                  · obtain ⟨b, off, rfl, c0, c1, z0, hbl⟩ := hMW k5 hlt5
                    clear hMW
                    go_wp2
                    · go_ret
                      exact ⟨rfl, below_drewN' hst.below _⟩
                    · have he : ((Ks k5).toList == id.toList) = false := by assumption
                      go_round
                      case rel => exact ⟨k5 + 1, by omega, rfl, by go_num, not_yet HN.out (str_ne he)⟩
                      case measure => simp [intOf]; omega
                  · have hF : Fk Ks Kp k3 id = none := Fk_none (fun j hj => HN.out j (by omega))
                    have hhas : ∀ n, Calls Try.prog 9 #[.pointer (some ⟨w1.heap.size + 1, 0, none⟩), .string id] (W.drewN n) fun e w' => e = .returned (.bool false) ∧ w' = W.drewN n := fun n => by
                      have h := has9 (W.drewN n) _ _ _ _ _ id (by unfold maxLen; omega) (hst.prov.drewN n)
                      rw [hF] at h
                      exact h
                    have hlook : ∀ n, Calls Try.prog 10 #[.pointer (some ⟨w1.heap.size + 1, 0, none⟩), .string id] (W.drewN n) fun e w' => e = .returned (.pointer none) ∧ w' = W.drewN n := fun n => by
                      have h := lookup10 (W.drewN n) _ _ _ _ _ id (by unfold maxLen; omega) (hst.prov.drewN n)
                      rw [hF] at h
                      exact h
                    have HH : Hid _ := hhas
                    have HO : Hid _ := hlook
                    clear hhas hlook hF HN hMW
                    go_wp2_with (first | (go_at_call 9; refine (HH.out _).mono ?_; rintro e w' ⟨rfl, rfl⟩) | (go_at_call 10; refine (HO.out _).mono ?_; rintro e w' ⟨rfl, rfl⟩))
                    go_ret
                    exact ⟨rfl, below_drewN' hst.below _⟩
end Go.Proofs.Qxb6627640a
