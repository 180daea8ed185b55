import Derived.Test.Qxb6627703aPlain
import Derived.Below
namespace Go.Proofs.Qxb6627703a
open Go.RowKit Go.Shelf
set_option linter.unusedSimpArgs false

/-- The runs f 0 .. f (len - 1) lie from address ao on. -/
def RunsAt (w : World) (ao : Option Addr) (len : Nat) (f : Nat → R6) : Prop :=
  ∀ k, k < len → ∃ b off, ao = some ⟨b, off, none⟩ ∧ b < w.heap.size ∧
    w.cell? ⟨b, off + k * 6, none⟩ = some (.int .i64 (f k).1.1) ∧ w.cell? ⟨b, off + k * 6 + 1, none⟩ = some (.int .u64 (f k).1.2.1) ∧ w.cell? ⟨b, off + k * 6 + 2, none⟩ = some (.int .u16 (f k).1.2.2) ∧
    w.cell? ⟨b, off + k * 6 + 3, none⟩ = some (.int .i64 (f k).2.1) ∧ w.cell? ⟨b, off + k * 6 + 4, none⟩ = some (.int .u64 (f k).2.2.1) ∧ w.cell? ⟨b, off + k * 6 + 5, none⟩ = some (.int .u16 (f k).2.2.2)

theorem RunsAt.of {w w' : World} {ao : Option Addr} {len : Nat} {f : Nat → R6} (h : RunsAt w ao len f) (hs : w.heap.size ≤ w'.heap.size) (hc : ∀ a : Addr, (∃ b off, ao = some ⟨b, off, none⟩ ∧ a.block = b) → a.block < w.heap.size → w'.cell? a = w.cell? a) : RunsAt w' ao len f := by
  intro k hk
  obtain ⟨b, off, e, hl, c0, c1, c2, c3, c4, c5⟩ := h k hk
  have q : ∀ o, w'.cell? ⟨b, o, none⟩ = w.cell? ⟨b, o, none⟩ := fun o => hc ⟨b, o, none⟩ ⟨b, off, e, rfl⟩ hl
  exact ⟨b, off, e, Nat.lt_of_lt_of_le hl hs, (q _).trans c0, (q _).trans c1, (q _).trans c2, (q _).trans c3, (q _).trans c4, (q _).trans c5⟩
theorem RunsAt.below {w w' : World} {ao : Option Addr} {len : Nat} {f : Nat → R6} (h : RunsAt w ao len f) (hb : Below w.heap.size w w') : RunsAt w' ao len f :=
  h.of hb.size fun _ _ hl => hb.cell hl

theorem cmpLays18 (blk off size : Nat) (w : World) : CmpLays Try.prog 18 #[] encR 6 csR blk off size w :=
  fun _ _ _ _ x y => compareStarts18 x y _

/-- What the sort has turned: block g alone. -/
structure But (g : Nat) (w w' : World) : Prop where
  os : w'.os = w.os
  tape : w'.tape = w.tape
  output : w'.output = w.output
  size : w.heap.size ≤ w'.heap.size
  block : ∀ k, k < w.heap.size → k ≠ g → w'.heap[k]? = w.heap[k]?

theorem But.sortWorldK (g n : Nat) (d' : Array R6) (os : Array Obj) (w : World) : But g w (sortWorldK encR 6 w g 0 n d' os) := by
  unfold Go.Proofs.sortWorldK Sort.putRowK Sort.putRow Sort.mapBlock Sort.grow
  refine ⟨rfl, rfl, rfl, ?_, ?_⟩
  · simp [Sort.ahead]
  · intro k hk hn
    have : g ≠ k := fun e => hn e.symm
    show ((w.heap.modify g _) ++ os)[k]? = w.heap[k]?
    rw [Array.getElem?_append, if_pos (by simpa using hk), Array.getElem?_modify, if_neg this]

set_option maxHeartbeats 1000000 in
theorem sort20 (blk cap : Nat) (d : Array R6) (w : World) (hH : Sort.HoldsK encR 6 w blk 0 d) (hblk : blk < w.heap.size) (hsz : d.size < 4611686018427387904) :
    Calls Try.prog 20 #[.slice (some ⟨blk, 0, none⟩) d.size cap, .func (.func 18) #[] #[]] w fun e w' =>
      e = .returned (.tuple #[]) ∧ But blk w w' ∧ ∃ d' : Array R6, d'.toList.Perm d.toList ∧ RunsAt w' (some ⟨blk, 0, none⟩) d.size (fun j => d'[j]!) := by
  have eg : ∀ args w, (callFunc 18 args).run Try.prog w = .ok (.enter 18 args) w := enters_of Try.func18 (by kernel_rfl) rfl
  have hcon := AnyQ.slices_SortFunc Try.sortRun 6 Try.isAgg39 Try.sizeOf39 encR (fun _ => rfl) (fun x v hv => by simp [encR] at hv; rcases hv with rfl | rfl | rfl | rfl | rfl | rfl <;> rfl) csR swo_starts 18 #[] blk 0 cap d w eg (cmpLays18 blk 0 d.size w) hH hblk hsz
  change Calls Try.prog 20 _ _ _ at hcon
  refine hcon.mono ?_
  rintro e w' ⟨rfl, d', n, os, hp, _, rfl⟩
  have hsz' : d'.size = d.size := hp.1
  refine ⟨rfl, But.sortWorldK _ _ _ _ _, d', ?_, ?_⟩
  · have h2 := hp.2.2
    rw [← hsz', Array.extract_size] at h2
    rw [hsz', Array.extract_size] at h2
    exact h2
  · have hK := holdsK_sortWorldK encR 6 w blk 0 n d d' os hblk hH hsz'
    intro k hk
    have c := fun c (hc : c < 6) => hK.cell (i := k) (c := c) (by omega) hc
    refine ⟨blk, 0, rfl, lt_sortWorldK encR 6 w blk 0 n d' os hblk, ?_, ?_, ?_, ?_, ?_, ?_⟩
    · exact (c 0 (by omega)).1
    · exact (c 1 (by omega)).1
    · exact (c 2 (by omega)).1
    · exact (c 3 (by omega)).1
    · exact (c 4 (by omega)).1
    · exact (c 5 (by omega)).1

end Go.Proofs.Qxb6627703a
