/-
  What a walk is told of a slice of bytes, and how that is carried on. No Go text in it.
-/
import Derived.WalkKit
import Derived.ProofKit
import Derived.Below
import Derived.Laws.IdiomStrings
import Derived.Laws.BytesArg
namespace Go.Proofs.Qxb6615960aFmt
open Go.RowKit Go.WideShapes

/-- The slice value '.slice a n _' reads the bytes l in the world w. -/
def Seg (w : World) (a : Option Addr) (n : Nat) (l : List Int) : Prop :=
  l.length = n ∧ (∀ x ∈ l, 0 ≤ x ∧ x ≤ 255) ∧
  (n = 0 ∨ ∃ b off, a = some ⟨b, off, none⟩ ∧ b < w.heap.size ∧ ∀ i, i < n → w.cell? ⟨b, off + i, none⟩ = some (.int .u8 (l.getD i 0)))

theorem Seg.below {w w' : World} {a : Option Addr} {n : Nat} {l : List Int} (h : Seg w a n l) (hb : Below w.heap.size w w') : Seg w' a n l := by
  obtain ⟨h1, h2, h3⟩ := h
  refine ⟨h1, h2, ?_⟩
  rcases h3 with h3 | ⟨b, off, ha, hbl, hc⟩
  · exact .inl h3
  · exact .inr ⟨b, off, ha, Nat.lt_of_lt_of_le hbl hb.size, fun i hi => (hb.cell (p := ⟨b, off + i, none⟩) hbl).trans (hc i hi)⟩

theorem cell_lt {w : World} {b off : Nat} {v : Value} (h : w.cell? ⟨b, off, none⟩ = some v) : b < w.heap.size := by
  rcases Nat.lt_or_ge b w.heap.size with h' | h'
  · exact h'
  · rw [World.cell?] at h
    rw [Array.getElem?_eq_none h'] at h
    simp at h

theorem byteBounds {n : Int} (h : (Lit.int .u8 n).wf = true) : 0 ≤ n ∧ n ≤ 255 := by
  simp [Lit.wf, IntKind.min, IntKind.max, IntKind.signed, IntKind.bits] at h
  omega

/-- Out of what the frame tells of an argument. -/
theorem seg_of_row {w : World} {a : Option Addr} {len cap : Nat} {zs : List Int}
    (h : (a = none ∧ len = 0 ∧ cap = 0 ∧ zs = []) ∨ ∃ x, a = some x ∧ len ≤ cap ∧ cap ≤ maxLen ∧ zs.length = cap ∧ (∀ i, i < zs.length → w.cell? (x.add i) = some (.int .u8 (zs.getD i 0))) ∧ ∀ n ∈ zs, (Lit.int .u8 n).wf = true) :
    Seg w a len (zs.take len) ∧ len ≤ 9223372036854775807 := by
  rcases h with ⟨rfl, rfl, rfl, rfl⟩ | ⟨x, rfl, hl, hm, hz, hc, hw⟩
  · exact ⟨⟨rfl, by simp, .inl rfl⟩, by omega⟩
  · unfold maxLen at hm
    refine ⟨⟨by rw [List.length_take]; omega, ?_, ?_⟩, by omega⟩
    · intro y hy
      have := hw y (List.mem_of_mem_take hy)
      have := byteBounds this
      omega
    · by_cases h0 : len = 0
      · exact .inl h0
      · right
        obtain ⟨b, off, spot⟩ := x
        have hc0 := hc 0 (by omega)
        have hspot : spot = none := by simpa [Addr.add] using World.cell?_spot hc0
        subst hspot
        have hc' : ∀ i, i < zs.length → w.cell? ⟨b, off + i, none⟩ = some (.int .u8 (zs.getD i 0)) := fun i hi => by rw [← add_plain]; exact hc i hi
        refine ⟨b, off, rfl, cell_lt (hc' 0 (by omega)), fun i hi => ?_⟩
        rw [hc' i (by omega)]
        simp [List.getD, hi]

/-- A row of bytes behind a store into one of its cells. -/
theorem row_set {w : World} {g n k : Nat} {v : Int} {f f' : Nat → Int} (h : ∀ j, j < n → w.cell? ⟨g, j, none⟩ = some (.int .u8 (f j))) (hk : k < n) (hv : f' k = v) (ho : ∀ j, j ≠ k → f' j = f j) :
    ∀ j, j < n → (w.setCell ⟨g, k, none⟩ (.int .u8 v)).cell? ⟨g, j, none⟩ = some (.int .u8 (f' j)) := by
  intro j hj
  by_cases hjk : j = k
  · subst hjk
    rw [World.cell?_setCell_same w _ _ (h j hj), hv]
  · rw [World.cell?_setCell_other w _ _ _ (by intro e; cases e; exact hjk rfl), h j hj, ho j hjk]

/-- Out of an owned row. -/
theorem seg_of_own {w : World} {base : Nat} {g n cap : Nat} {l : List Int} (h : w.ownsRow base 5 1 (.slice (some ⟨g, 0, none⟩) n cap) n (l.map (Value.int .u8))) (hl : ∀ x ∈ l, 0 ≤ x ∧ x ≤ 255) : Seg w (some ⟨g, 0, none⟩) n l := by
  have hlen : l.length = n := by simpa using h.1
  refine ⟨hlen, hl, ?_⟩
  by_cases h0 : n = 0
  · exact .inl h0
  · refine .inr ⟨g, 0, rfl, (h.lt g rfl).2, fun i hi => ?_⟩
    rw [Nat.zero_add, h.cellAt i (by omega)]
    simp [List.getD, List.getElem?_eq_getElem (show i < l.length by omega)]

end Go.Proofs.Qxb6615960aFmt
