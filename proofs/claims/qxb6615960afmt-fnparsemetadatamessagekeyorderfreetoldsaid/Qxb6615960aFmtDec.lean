/-
  What a walk is told of the decoder's own cells. No Go text in it.
-/
import Derived.Test.Qxb6615960aFmtErr
import Derived.Test.Qxb6615960aFmtNum
namespace Go.Proofs.Qxb6615960aFmt
open Go.RowKit

/-- Block D of w is a decoder over the bytes l (block B), at place p. -/
def Dec (w : World) (D B n c : Nat) (l : List Int) (p : Nat) : Prop :=
  w.cell? ⟨D, 0, none⟩ = some (.slice (some ⟨B, 0, none⟩) n c) ∧ w.cell? ⟨D, 1, none⟩ = some (.int .i64 p) ∧ w.frozen? ⟨D, 1, none⟩ = false ∧ B ≠ D ∧ l.length = n ∧ n ≤ c ∧
  (∀ x ∈ l, 0 ≤ x ∧ x ≤ 255) ∧ ∀ i, i < n → w.cell? ⟨B, i, none⟩ = some (.int .u8 (l.getD i 0))

variable {w w' : World} {D B n c p : Nat} {l : List Int}

theorem Dec.lt (h : Dec w D B n c l p) : D < w.heap.size := cell_lt h.1
theorem Dec.drewN (h : Dec w D B n c l p) (q : Nat) : Dec (w.drewN q) D B n c l p := h
theorem Dec.drew (h : Dec w D B n c l p) : Dec w.drew D B n c l p := h
theorem Dec.kept {r : Option Nat} (h : Dec w D B n c l p) (hg : w.grownBy w' r) (hD : some D ≠ r) (hB : some B ≠ r) : Dec w' D B n c l p := by
  have hl := h.lt
  obtain ⟨h0, h1, h2, h3, h4, h5, h6, h7⟩ := h
  refine ⟨(hg.cell_far _ hl hD).trans h0, (hg.cell_far _ hl hD).trans h1, (hg.frozen_far _ hl hD).trans h2, h3, h4, h5, h6, fun i hi => ?_⟩
  exact (hg.cell_far _ (cell_lt (h7 i hi)) hB).trans (h7 i hi)
theorem Dec.set (h : Dec w D B n c l p) (q : Nat) : Dec (w.setCell ⟨D, 1, none⟩ (.int .i64 q)) D B n c l q := by
  obtain ⟨h0, h1, h2, h3, h4, h5, h6, h7⟩ := h
  refine ⟨?_, World.cell?_setCell_same w _ _ h1, by simpa using h2, h3, h4, h5, h6, fun i hi => ?_⟩
  · rw [World.cell?_setCell_other w _ _ _ (by intro e; cases e)]; exact h0
  · rw [World.cell?_setCell_other w _ _ _ (by intro e; cases e; exact h3 rfl)]; exact h7 i hi

/-- An error that fmt has made. -/
def Err (w : World) (v : Value) : Prop := ∃ g s, v = .iface 99 (.pointer (some ⟨g, 0, none⟩)) ∧ w.cell? ⟨g, 0, none⟩ = some (.string s)
theorem Told.err {v : Value} (h : Told w w' v) : Err w' v := by obtain ⟨g, s, h1, h2, _⟩ := h; exact ⟨g, s, h1, h2⟩
theorem Told.grown {v : Value} (h : Told w w' v) : w.grownBy w' none := by obtain ⟨g, s, h1, h2, h3⟩ := h; exact h3

/-- The place in memory, for a measure. -/
def posOf (w : World) (D : Nat) : Nat := match w.cell? ⟨D, 1, none⟩ with | some (.int _ x) => x.toNat | _ => 0
theorem posOf_dec (h : Dec w D B n c l p) : posOf w D = p := by simp [posOf, h.2.1]

/-- A cell of a new block. -/
theorem new_cells (w : World) (q : Nat) (vs : Array Value) (t : TypeId) (i : Nat) (v : Value) (h : vs[i]? = some v) : ((w.drewN q).alloc (.cells vs t)).cell? ⟨w.heap.size, i, none⟩ = some v := by
  show ((w.drewN q).alloc (.cells vs t)).cell? ⟨(w.drewN q).heap.size, i, none⟩ = some v
  rw [World.cell?_alloc_mark, h]

end Go.Proofs.Qxb6615960aFmt
