import Derived.Test.Qxb6627599aBytes
namespace Go.Proofs.Qxb6627599a
open Go.RowKit

def Mon.zero : Mon := ⟨⟨#[]⟩, ⟨#[]⟩, ⟨#[]⟩, ⟨#[]⟩⟩
def Mon.val (m : Mon) : Value := .agg #[.string m.i, .string m.l, .string m.p, .string m.d]

/-- What Monitor answers over the rows M. -/
def Finds (M : Nat → Mon) (len : Nat) (id : ByteArray) (m : Mon) (fo : Bool) : Prop :=
  (fo = true ∧ ∃ k, k < len ∧ m = M k ∧ (M k).i = id ∧ ∀ j, j < k → (M j).i ≠ id) ∨ (fo = false ∧ m = Mon.zero ∧ ∀ j, j < len → (M j).i ≠ id)

theorem str_eq {a b : ByteArray} (h : (a.toList == b.toList) = true) : a = b := by
  have h' := eq_of_beq h
  rw [ByteArray.toList_eq, ByteArray.toList_eq] at h'
  exact WideShapes.bytes_inj h'
theorem str_ne {a b : ByteArray} (h : (a.toList == b.toList) = false) : a ≠ b := by
  intro e; subst e; simp at h
theorem no_more {M : Nat → Mon} {id : ByteArray} {k : Nat} (h : ∀ j, j < k → (M j).i ≠ id) (hk : (M k).i ≠ id) : ∀ j, j < k + 1 → (M j).i ≠ id := by
  intro j hj
  by_cases e : j = k
  · subst e; exact hk
  · exact h j (by omega)

set_option maxRecDepth 100000 in
set_option maxHeartbeats 1000000 in
theorem monitor8 (pw id : ByteArray) (ao so : Option Addr) (len cap sl sc : Nat) (M : Nat → Mon) (w : World)
    (hl : len ≤ maxLen) (hM : MonsAt w ao len M) :
    Calls Try.prog 8 #[.agg #[.string pw, .slice ao len cap, .slice so sl sc], .string id] w fun e w' => (∃ m fo, e = .returned (.tuple #[m.val, .bool fo]) ∧ Finds M len id m fo) ∧ Below w.heap.size w w' := by
  unfold maxLen at *
  go_enter Try.func8, Try.ntmps8
  go_wp2
  go_loopw [11] (fun i wr => ∃ k : Nat, k ≤ len ∧ i = .int .i64 k ∧ (∀ j, j < k → (M j).i ≠ id) ∧ Below (w.heap.size + 2) ((w.alloc (Obj.cells #[Value.string pw, Value.slice ao len cap, Value.slice so sl sc] 29)).alloc
      (Obj.cells #[Value.string { data := #[] }, Value.string { data := #[] }, Value.string { data := #[] }, Value.string { data := #[] }] 32)) wr) (fun i _ => len - (intOf i).toNat)
  case atStart => exact ⟨0, by omega, rfl, by intro j hj; omega, Below.refl _ _⟩
  case round =>
    obtain ⟨k, hk, rfl, hno, hb⟩ := hrel
    have HNO : Hid (∀ j, j < k → (M j).i ≠ id) := hno
    clear hno
    have hbw : Below w.heap.size w wr := ((Below.refl _ _).alloc (Nat.le_refl _) _ |>.alloc (by simp) _).trans (hb.mono (by omega))
    have hz : w.heap.size + 2 ≤ wr.heap.size := by have := hb.size; simpa using this
    have r0 : wr.cell? ⟨w.heap.size + 1, 0, none⟩ = some (.string ⟨#[]⟩) := by rw [hb.cell (by simp)]; go_simp
    have r1 : wr.cell? ⟨w.heap.size + 1, 1, none⟩ = some (.string ⟨#[]⟩) := by rw [hb.cell (by simp)]; go_simp
    have r2 : wr.cell? ⟨w.heap.size + 1, 2, none⟩ = some (.string ⟨#[]⟩) := by rw [hb.cell (by simp)]; go_simp
    have r3 : wr.cell? ⟨w.heap.size + 1, 3, none⟩ = some (.string ⟨#[]⟩) := by rw [hb.cell (by simp)]; go_simp
    have f0 : wr.frozen? ⟨w.heap.size + 1, 0, none⟩ = false := by rw [hb.frozen (by simp)]; go_simp
    have f1 : wr.frozen? ⟨w.heap.size + 1, 1, none⟩ = false := by rw [hb.frozen (by simp)]; go_simp
    have f2 : wr.frozen? ⟨w.heap.size + 1, 2, none⟩ = false := by rw [hb.frozen (by simp)]; go_simp
    have f3 : wr.frozen? ⟨w.heap.size + 1, 3, none⟩ = false := by rw [hb.frozen (by simp)]; go_simp
    have ca : ∀ o q, (wr.alloc o).cell? ⟨w.heap.size + 1, q, none⟩ = wr.cell? ⟨w.heap.size + 1, q, none⟩ := fun o q => World.cell?_alloc_lt _ _ _ (show w.heap.size + 1 < wr.heap.size by omega)
    have fa : ∀ o q, (wr.alloc o).frozen? ⟨w.heap.size + 1, q, none⟩ = wr.frozen? ⟨w.heap.size + 1, q, none⟩ := fun o q => World.frozen?_alloc_old _ _ _ (show w.heap.size + 1 ≠ wr.heap.size by omega)
    by_cases hlt : k < len
    · obtain ⟨b, off, rfl, c0, c1, c2, c3, z0, z1, z2, z3, hbl⟩ := hM k hlt
      have d0 := (hbw.cell (p := ⟨b, off + k * 4, none⟩) hbl).trans c0
      have d1 := (hbw.cell (p := ⟨b, off + k * 4 + 1, none⟩) hbl).trans c1
      have d2 := (hbw.cell (p := ⟨b, off + k * 4 + 2, none⟩) hbl).trans c2
      have d3 := (hbw.cell (p := ⟨b, off + k * 4 + 3, none⟩) hbl).trans c3
      clear hM c0 c1 c2 c3
      go_wp2
      · have he : ((M k).i.toList == id.toList) = true := by assumption
        exact bodyPost_ret (v := .tuple #[(M k).val, .bool true]) (by simp [results, Try.results8, go_sem, ca, r0, r1, r2, r3, Mon.val]) rfl
          ⟨⟨M k, true, rfl, Or.inl ⟨rfl, k, hlt, rfl, str_eq he, HNO.out⟩⟩, ((((hbw.alloc hbw.size _).setCell (by simp) _).setCell (by simp) _).setCell (by simp) _).setCell (by simp) _⟩
      · have he : ((M k).i.toList == id.toList) = false := by assumption
        go_roundw
        case rel => exact ⟨k + 1, by omega, by go_num, no_more HNO.out (str_ne he), hb.alloc hz _⟩
        case measure => simp [intOf]; omega
    · have hkl : k = len := by omega
      go_wp2
      exact bodyPost_ret (v := .tuple #[Mon.zero.val, .bool false]) (by simp [results, Try.results8, go_sem, r0, r1, r2, r3, Mon.val, Mon.zero]) rfl
          ⟨⟨Mon.zero, false, rfl, Or.inr ⟨rfl, rfl, fun j hj => HNO.out j (by omega)⟩⟩, (((hbw.setCell (by simp) _).setCell (by simp) _).setCell (by simp) _).setCell (by simp) _⟩
end Go.Proofs.Qxb6627599a
