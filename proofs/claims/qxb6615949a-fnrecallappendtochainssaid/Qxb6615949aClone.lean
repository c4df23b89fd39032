/-
  The walk of zzCloneBytes (9).
-/
import Derived.Test.Qxb6615949aProg
import Derived.Test.Qxb6615949aBase
import Derived.Lib.SliceRun
namespace Go.Proofs.Qxb6615949a
open Go.RowKit Go.WideShapes

theorem info5 : (Try.prog.info? 5).map (fun i => (i.zero, i.size, i.bytes)) = some (some (.int .u8 0), 1, 1) := by kernel_rfl

/-- The bytes l as cells. -/
def byteVals (l : List Int) : List Value := l.map (Value.int .u8)
def cl (l : List Int) (k : Nat) : List Value := byteVals (l.take k ++ List.replicate (l.length - k) 0)
theorem cl_zero (l : List Int) : cl l 0 = (madeCells #[Value.int .u8 0] l.length).toList := by
  rw [toList_madeCells_one]
  simp [cl, byteVals]
theorem cl_full (l : List Int) : cl l l.length = byteVals l := by simp [cl]
theorem cl_at (l : List Int) {k : Nat} (h : k < l.length) : (cl l k)[k]? = some (.int .u8 0) := by
  unfold cl byteVals
  rw [List.getElem?_map, List.getElem?_append_right (by rw [List.length_take]; omega), List.length_take, List.getElem?_replicate, if_pos (by omega)]
  rfl
theorem cl_step (l : List Int) {k : Nat} (h : k < l.length) : (cl l k).set k (.int .u8 (l.getD k 0)) = cl l (k + 1) := by
  apply List.ext_getElem?
  intro j
  unfold cl byteVals
  rw [List.getElem?_set, List.length_map, List.length_append, List.length_take, List.length_replicate]
  by_cases hj : k = j
  · subst hj
    rw [if_pos rfl, if_pos (by omega), List.getElem?_map, List.getElem?_append_left (by rw [List.length_take]; omega), List.getElem?_take, if_pos (by omega), List.getD_eq_getElem?_getD, List.getElem?_eq_getElem h]
    rfl
  · rw [if_neg hj, List.getElem?_map, List.getElem?_map]
    congr 1
    by_cases h1 : j < k
    · rw [List.getElem?_append_left (by rw [List.length_take]; omega), List.getElem?_append_left (by rw [List.length_take]; omega), List.getElem?_take, List.getElem?_take, if_pos h1, if_pos (by omega)]
    · rw [List.getElem?_append_right (by rw [List.length_take]; omega), List.getElem?_append_right (by rw [List.length_take]; omega), List.length_take, List.length_take, List.getElem?_replicate, List.getElem?_replicate]
      by_cases h2 : j < l.length
      · rw [if_pos (by omega), if_pos (by omega)]
      · rw [if_neg (by omega), if_neg (by omega)]

theorem clone_nil (w : World) : Calls Try.prog 9 #[.slice none 0 0] w fun e w' => e = .returned (.slice none 0 0) ∧ w' = w := by
  have hnil := fun (w : World) => Lib.run_eql_slice_nil (P := Try.prog) w 22 5 none 0 0 0 0 Try.underlying22
  go_enter Try.func9, Try.ntmps9
  go_wp2
  go_ret
  exact ⟨rfl, rfl⟩

theorem byteVals_length (l : List Int) : (byteVals l).length = l.length := by simp [byteVals]

theorem clone_zero (x : Addr) (c : Nat) (w : World) :
    Calls Try.prog 9 #[.slice (some x) 0 c] w fun e w' => e = .returned (.slice (some ⟨w.heap.size, 0, none⟩) 0 0) ∧
      w'.ownsRow w.heap.size 5 1 (.slice (some ⟨w.heap.size, 0, none⟩) 0 0) 0 (byteVals []) ∧ Below w.heap.size w w' := by
  have hnil := fun (w : World) => Lib.run_eql_slice_nil (P := Try.prog) w 22 5 (some x) 0 c 0 0 Try.underlying22
  obtain ⟨i0, hi, hz0, hz1, hz2⟩ := info_parts info5
  have hlim : i0.bytes * 0 ≤ 281474976710656 := by omega
  have hmax : 0 ≤ maxLen := Nat.zero_le _
  go_enter Try.func9, Try.ntmps9
  go_wp2_with (at_make; refine wpList_make_full _ rfl _ _ 22 rfl w.heap.size 5 i0 (.int .u8 0) 1 Try.underlying22 hi hz0 hz1 _ _ _ _ 0 rfl rfl rfl rfl hlim hmax (Nat.le_refl _) ?_)
  intro w1 hown hgrow
  have hb1 : Below w.heap.size w w1 := (Below.refl _ _).grown hgrow (Nat.le_refl _) (fun k hk => by cases hk)
  clear hgrow
  go_wp2
  refine wp_loop_rounds 1 ?_
  rw [rounds_succ]
  go_wp2
  go_ret
  exact ⟨rfl, by simpa [byteVals, madeCells] using hown, hb1⟩

set_option maxHeartbeats 400000 in
theorem clone_at (b off n c : Nat) (l : List Int) (w : World) (h1 : l.length = n) (hbl : b < w.heap.size) (hcell : ∀ i, i < n → w.cell? ⟨b, off + i, none⟩ = some (.int .u8 (l.getD i 0))) (hn : n ≤ 1048600) :
    Calls Try.prog 9 #[.slice (some ⟨b, off, none⟩) n c] w fun e w' => e = .returned (.slice (some ⟨w.heap.size, 0, none⟩) n n) ∧
      w'.ownsRow w.heap.size 5 1 (.slice (some ⟨w.heap.size, 0, none⟩) n n) n (byteVals l) ∧ Below w.heap.size w w' := by
  have hnil := fun (w : World) => Lib.run_eql_slice_nil (P := Try.prog) w 22 5 (some ⟨b, off, none⟩) n c 0 0 Try.underlying22
  obtain ⟨i0, hi, hz0, hz1, hz2⟩ := info_parts info5
  have hlim : i0.bytes * n ≤ 281474976710656 := by rw [hz2]; omega
  have hmax : n ≤ maxLen := by unfold maxLen; omega
  have HC : Hid (∀ i, i < n → w.cell? ⟨b, off + i, none⟩ = some (.int .u8 (l.getD i 0))) := hcell
  have H1 : Hid (l.length = n) := h1
  clear hcell h1
  go_enter Try.func9, Try.ntmps9
  go_wp2_with (at_make; refine wpList_make_full _ rfl _ _ 22 rfl w.heap.size 5 i0 (.int .u8 0) 1 Try.underlying22 hi hz0 hz1 _ _ _ _ n rfl rfl rfl rfl hlim hmax (Nat.le_refl _) ?_)
  intro w1 hown0 hgrow
  have hown : w1.ownsRow w.heap.size 5 1 (.slice (some ⟨w.heap.size, 0, none⟩) n n) n (cl l 0) := by rw [cl_zero, H1.out]; exact hown0
  have hb1 : Below w.heap.size w w1 := (Below.refl _ _).grown hgrow (Nat.le_refl _) (fun k hk => by cases hk)
  clear hgrow hown0 hi hz0 hz1 hz2 hlim hmax hnil
  go_wp2
  go_loopw [4] (fun i wr => ∃ k : Nat, k ≤ n ∧ i = .int .i64 k ∧ wr.ownsRow w.heap.size 5 1 (.slice (some ⟨w.heap.size, 0, none⟩) n n) n (cl l k) ∧ Below w.heap.size w wr)
    (fun i _ => n - (intOf i).toNat)
  case atStart => exact ⟨0, Nat.zero_le _, rfl, hown, hb1⟩
  case round =>
    obtain ⟨k, hk, rfl, hownr, hbr⟩ := hrel
    clear hown hb1
    by_cases hlt : k < n
    · have hck : wr.cell? ⟨b, off + k, none⟩ = some (.int .u8 (l.getD k 0)) := (hbr.cell (p := ⟨b, off + k, none⟩) hbl).trans (HC.out k hlt)
      have hck2 : wr.cell? ⟨w.heap.size, k, none⟩ = some (.int .u8 0) := by rw [hownr.cellAt k (by omega)]; exact cl_at l (by rw [H1.out]; exact hlt)
      have hfk : wr.frozen? ⟨w.heap.size, k, none⟩ = false := hownr.frozenAt k
      have hst := (hownr.stored k (.int .u8 (l.getD k 0))).1
      rw [cl_step l (by rw [H1.out]; exact hlt)] at hst
      obtain ⟨x, hx⟩ : ∃ x, x = l.getD k 0 := ⟨_, rfl⟩
      rw [← hx] at hck hst
      have HS : Hid ((wr.setCell ⟨w.heap.size, k, none⟩ (.int .u8 x)).ownsRow w.heap.size 5 1 (.slice (some ⟨w.heap.size, 0, none⟩) n n) n (cl l (k + 1))) := hst
      clear hx hst hownr
      go_wp2
      go_roundw
      case rel => exact ⟨k + 1, by omega, by go_num, HS.out, hbr.setCell (Nat.le_refl _) _⟩
      case measure => simp [intOf]; omega
    · have hke : k = l.length := by rw [H1.out]; omega
      have hfin : wr.ownsRow w.heap.size 5 1 (.slice (some ⟨w.heap.size, 0, none⟩) n n) n (byteVals l) := by rw [hke, cl_full] at hownr; exact hownr
      clear hke hownr
      go_wp2
      go_ret
      exact ⟨rfl, hfin, hbr⟩

/-- zzCloneBytes at every slice that is not nil. -/
theorem clone_some (x : Addr) (n c : Nat) (l : List Int) (w : World) (h : Seg w (some x) n l) (hn : n ≤ 1048600) :
    Calls Try.prog 9 #[.slice (some x) n c] w fun e w' => e = .returned (.slice (some ⟨w.heap.size, 0, none⟩) n n) ∧
      w'.ownsRow w.heap.size 5 1 (.slice (some ⟨w.heap.size, 0, none⟩) n n) n (byteVals l) ∧ Below w.heap.size w w' := by
  obtain ⟨h1, h2, h3⟩ := h
  rcases h3 with rfl | ⟨b, off, hx, hbl, hcell⟩
  · have : l = [] := List.length_eq_zero_iff.1 h1
    subst this
    exact clone_zero x c w
  · obtain rfl : x = ⟨b, off, none⟩ := by simpa using hx
    exact clone_at b off n c l w h1 hbl hcell hn

/-- zzCloneBytes at every slice: what comes back is nil just where the argument is; else it is a new row. -/
theorem clone_any (a : Option Addr) (n c : Nat) (l : List Int) (w : World) (h : Seg w a n l) (ha : a = none → n = 0 ∧ c = 0) (hn : n ≤ 1048600) :
    Calls Try.prog 9 #[.slice a n c] w fun e w' => ∃ a', e = .returned (.slice a' n n) ∧ (a = none → a' = none) ∧ (a ≠ none → a' = some ⟨w.heap.size, 0, none⟩) ∧
      w'.ownsRow w.heap.size 5 1 (.slice a' n n) n (byteVals l) ∧ Below w.heap.size w w' := by
  cases a with
  | none =>
    obtain ⟨rfl, rfl⟩ := ha rfl
    have hl : l = [] := List.length_eq_zero_iff.1 h.1
    subst hl
    refine (clone_nil w).mono ?_
    rintro e w' ⟨rfl, rfl⟩
    exact ⟨none, rfl, fun _ => rfl, fun h => absurd rfl h, World.ownsRow_nil _ _ _ _, Below.refl _ _⟩
  | some x =>
    refine (clone_some x n c l w h hn).mono ?_
    rintro e w' ⟨rfl, ho, hb⟩
    exact ⟨_, rfl, (fun h => by cases h), fun _ => rfl, ho, hb⟩

theorem seg_of_own_any {w : World} {base n : Nat} {a : Option Addr} {l : List Int} (h : w.ownsRow base 5 1 (.slice a n n) n (byteVals l)) (hl : ∀ x ∈ l, 0 ≤ x ∧ x ≤ 255) : Seg w a n l := by
  have hlen : l.length = n := by have := h.1; rw [byteVals_length] at this; omega
  rcases h.2 with ⟨h', h0⟩ | ⟨g, cap, cur, hv, _⟩
  · exact ⟨hlen, hl, .inl h0⟩
  · simp only [Value.slice.injEq] at hv
    obtain ⟨rfl, _, rfl⟩ := hv
    exact seg_of_own h hl
end Go.Proofs.Qxb6615949a
