/-
  The walks of zzB1Lower (12), zzB1Upper (13), folded (21).
-/
import Derived.Test.Qxb6615213aProg
import Derived.Test.Qxb6615213aBase
namespace Go.Proofs.Qxb6615213a
open Go.RowKit Go.WideShapes

def lowI (c : Int) : Int := if 65 ≤ c ∧ c ≤ 90 then c + 32 else c
def upI (c : Int) : Int := if 97 ≤ c ∧ c ≤ 122 then c - 32 else c

theorem lower_any (c : Int) (w : World) (h0 : 0 ≤ c) (h1 : c ≤ 255) : Calls Try.prog 12 #[.int .u8 c] w fun e w' => e = .returned (.int .u8 (lowI c)) ∧ w' = w := by
  unfold lowI
  by_cases ha : 65 ≤ c
  · by_cases hb : c ≤ 90
    · rw [if_pos ⟨ha, hb⟩]
      go_enter Try.func12, Try.ntmps12
      go_wp2
      go_ret
      exact ⟨rfl, rfl⟩
    · rw [if_neg (by omega)]
      go_enter Try.func12, Try.ntmps12
      go_wp2
      go_ret
      exact ⟨rfl, rfl⟩
  · rw [if_neg (by omega)]
    go_enter Try.func12, Try.ntmps12
    go_wp2
    go_ret
    exact ⟨rfl, rfl⟩

theorem upper_any (c : Int) (w : World) (h0 : 0 ≤ c) (h1 : c ≤ 255) : Calls Try.prog 13 #[.int .u8 c] w fun e w' => e = .returned (.int .u8 (upI c)) ∧ w' = w := by
  unfold upI
  by_cases ha : 97 ≤ c
  · by_cases hb : c ≤ 122
    · rw [if_pos ⟨ha, hb⟩]
      go_enter Try.func13, Try.ntmps13
      go_wp2
      go_ret
      exact ⟨rfl, rfl⟩
    · rw [if_neg (by omega)]
      go_enter Try.func13, Try.ntmps13
      go_wp2
      go_ret
      exact ⟨rfl, rfl⟩
  · rw [if_neg (by omega)]
    go_enter Try.func13, Try.ntmps13
    go_wp2
    go_ret
    exact ⟨rfl, rfl⟩

theorem lower_w (c : Int) (w : World) (h0 : 0 ≤ c) (h1 : c ≤ 255) : Calls Try.prog 12 #[.int .u8 c] w fun e w' => e = .returned (.int .u8 (lowI c)) ∧ w = w' :=
  (lower_any c w h0 h1).mono fun _ _ h => ⟨h.1, h.2.symm⟩
theorem upper_w (c : Int) (w : World) (h0 : 0 ≤ c) (h1 : c ≤ 255) : Calls Try.prog 13 #[.int .u8 c] w fun e w' => e = .returned (.int .u8 (upI c)) ∧ w = w' :=
  (upper_any c w h0 h1).mono fun _ _ h => ⟨h.1, h.2.symm⟩

/-- A string's bytes as numbers. -/
def bs (s : ByteArray) : List Int := s.data.toList.map fun x => (x.toNat : Int)
theorem bs_length (s : ByteArray) : (bs s).length = s.size := by unfold bs ByteArray.size; rw [List.length_map, Array.length_toList]
theorem bs_range (s : ByteArray) : ∀ x ∈ bs s, 0 ≤ x ∧ x ≤ 255 := by
  intro x hx
  simp only [bs, List.mem_map] at hx
  obtain ⟨y, _, rfl⟩ := hx
  have := y.toNat_lt
  omega
theorem getD_range {l : List Int} (h : ∀ x ∈ l, 0 ≤ x ∧ x ≤ 255) (i : Nat) : 0 ≤ l.getD i 0 ∧ l.getD i 0 ≤ 255 := by
  by_cases hi : i < l.length
  · rw [List.getD_eq_getElem?_getD, List.getElem?_eq_getElem hi]
    exact h _ (List.getElem_mem hi)
  · rw [List.getD_eq_getElem?_getD, List.getElem?_eq_none (by omega)]
    simp

/-- The first k numbers of l are turned by lowI, the others are as they were. -/
def part (l : List Int) (k i : Nat) : Int := if i < k then lowI (l.getD i 0) else l.getD i 0

theorem fold_start (s : ByteArray) (w : World) (cap : Nat) (j : Nat) (hj : j < s.size) :
    ((w.alloc (.cells (bytesRow s cap) 5 ((bytesRow s cap).size, (bytesRow s cap).size + 1))).drew).cell? ⟨w.heap.size, j, none⟩ = some (.int .u8 (part (bs s) 0 j)) := by
  show (w.alloc (.cells (bytesRow s cap) 5 ((bytesRow s cap).size, (bytesRow s cap).size + 1))).cell? ⟨w.heap.size, j, none⟩ = _
  rw [World.cell?_alloc_mark, bytesRow_at s cap j hj]
  unfold part
  rw [if_neg (by omega), List.getD_eq_getElem?_getD]
  unfold bs
  rw [List.getElem?_map, Array.getElem?_toList, Array.getElem?_eq_getElem hj]
  rfl
theorem bytesRow_size (s : ByteArray) (cap : Nat) : s.size ≤ (bytesRow s cap).size := by
  unfold bytesRow
  rw [Array.size_append, Array.size_map]
  exact Nat.le_add_right _ _
theorem fold_free (s : ByteArray) (w : World) (cap : Nat) (j : Nat) (hj : j < s.size) :
    ((w.alloc (.cells (bytesRow s cap) 5 ((bytesRow s cap).size, (bytesRow s cap).size + 1))).drew).frozen? ⟨w.heap.size, j, none⟩ = false := by
  show (w.alloc (.cells (bytesRow s cap) 5 ((bytesRow s cap).size, (bytesRow s cap).size + 1))).frozen? ⟨w.heap.size, j, none⟩ = _
  have := bytesRow_size s cap
  rw [World.frozen?_alloc_mark, decide_eq_false (by omega : ¬ (bytesRow s cap).size ≤ j)]
  rfl

theorem part_hit {l : List Int} {k : Nat} {c : Int} (h : c = l.getD k 0) (h0 : 65 ≤ c) (h1 : c ≤ 90) : part l (k + 1) k = c + 97 - 65 := by
  unfold part lowI
  rw [if_pos (by omega), ← h, if_pos ⟨h0, h1⟩]
  omega
theorem part_other (l : List Int) (k : Nat) : ∀ j, j ≠ k → part l (k + 1) j = part l k j := by
  intro j hj
  unfold part
  by_cases h : j < k
  · rw [if_pos h, if_pos (by omega)]
  · rw [if_neg h, if_neg (by omega)]
theorem part_miss {l : List Int} {k : Nat} {c : Int} (h : c = l.getD k 0) (hn : ¬ (65 ≤ c ∧ c ≤ 90)) : part l (k + 1) k = part l k k := by
  unfold part
  rw [if_pos (by omega : k < k + 1), if_neg (by omega : ¬ k < k), ← h]
  unfold lowI
  rw [if_neg hn]
theorem part_next {l : List Int} {k n g : Nat} {w : World} (hn : part l (k + 1) k = part l k k) (h : ∀ j, j < n → w.cell? ⟨g, j, none⟩ = some (.int .u8 (part l k j))) : ∀ j, j < n → w.cell? ⟨g, j, none⟩ = some (.int .u8 (part l (k + 1) j)) := by
  intro j hj
  rw [h j hj]
  by_cases hjk : j = k
  · subst hjk; rw [hn]
  · rw [part_other l k j hjk]
theorem part_end (s : ByteArray) {j : Nat} (hj : j < s.size) : some (Value.int .u8 (part (bs s) s.size j)) = some (.int .u8 (((bs s).map lowI).getD j 0)) := by
  unfold part
  rw [if_pos hj, List.getD_eq_getElem?_getD, List.getD_eq_getElem?_getD, List.getElem?_map, List.getElem?_eq_getElem (by rw [bs_length]; exact hj)]
  rfl

set_option maxHeartbeats 400000 in
theorem folded_any (s : ByteArray) (w : World) (hs : s.size ≤ 1048576) :
    Calls Try.prog 21 #[.string s] w fun e w' => e = .returned (.string (strOfNums ((bs s).map lowI))) ∧ Below w.heap.size w w' := by
  have hcv := fun w => run_bytes_of_string (P := Try.prog) w 9 22 5 s Try.underlying9 Try.underlying22 Try.underlying5
  have hlen := bs_length s
  have hrng := bs_range s
  go_enter Try.func21, Try.ntmps21
  go_wp2
  go_loopw [10] (fun i wr => ∃ k : Nat, k ≤ s.size ∧ i = .int .i64 k ∧ (∀ j, j < s.size → wr.cell? ⟨w.heap.size, j, none⟩ = some (.int .u8 (part (bs s) k j))) ∧ (∀ j, j < s.size → wr.frozen? ⟨w.heap.size, j, none⟩ = false) ∧ Below w.heap.size w wr)
    (fun i _ => s.size - (intOf i).toNat)
  case atStart => exact ⟨0, Nat.zero_le _, rfl, fold_start s w _, fold_free s w _, ((Below.refl _ _).alloc (Nat.le_refl _) _).drew⟩
  case round =>
    obtain ⟨k, hk, rfl, hc, hf, hb⟩ := hrel
    by_cases hlt : k < s.size
    · have hck := hc k hlt
      have hfk := hf k hlt
      have hr := getD_range hrng k
      have hpk : part (bs s) k k = (bs s).getD k 0 := by unfold part; rw [if_neg (by omega)]
      rw [hpk] at hck
      obtain ⟨c, hcd⟩ : ∃ c, c = (bs s).getD k 0 := ⟨_, rfl⟩
      rw [← hcd] at hck hr
      have HC : Hid (c = (bs s).getD k 0) := hcd
      have HA : Hid (∀ j, j < s.size → wr.cell? ⟨w.heap.size, j, none⟩ = some (.int .u8 (part (bs s) k j))) := hc
      have HF : Hid (∀ j, j < s.size → wr.frozen? ⟨w.heap.size, j, none⟩ = false) := hf
      clear hcd hc hf hpk hrng hlen hcv
      obtain ⟨hr0, hr1⟩ := hr
      by_cases ha : 65 ≤ c ∧ c ≤ 90
      · obtain ⟨ha0, ha1⟩ := ha
        go_wp2
        go_roundw
        case rel => exact ⟨k + 1, by omega, by go_num, row_set HA.out hlt (part_hit HC.out ha0 ha1) (part_other _ _), fun j hj => by rw [World.frozen?_setCell]; exact HF.out j hj, hb.setCell (Nat.le_refl _) _⟩
        case measure => simp [intOf]; omega
      · have hn : part (bs s) (k + 1) k = part (bs s) k k := part_miss HC.out ha
        have HR : Hid (∀ j, j < s.size → wr.cell? ⟨w.heap.size, j, none⟩ = some (.int .u8 (part (bs s) (k + 1) j))) := part_next hn HA.out
        clear hn
        by_cases ha0 : 65 ≤ c
        · have ha1 : ¬ c ≤ 90 := by omega
          clear ha
          go_wp2
          go_roundw
          case rel => exact ⟨k + 1, by omega, by go_num, HR.out, HF.out, hb⟩
          case measure => simp [intOf]; omega
        · clear ha
          go_wp2
          go_roundw
          case rel => exact ⟨k + 1, by omega, by go_num, HR.out, HF.out, hb⟩
          case measure => simp [intOf]; omega
    · have hke : k = s.size := by omega
      have hcv2 := run_convert_bytes_arg (P := Try.prog) wr 22 5 Try.underlying22 Try.underlying5 w.heap.size 0 s.size (grownCap w s.size 0 5) ((bs s).map lowI) (by rw [List.length_map, hlen]) (fun j hj => by rw [Nat.zero_add, hc j hj, hke]; exact part_end s hj) 9 Try.underlying9
      clear hc hf hrng hlen hcv
      go_wp2
      go_ret
      exact ⟨rfl, hb⟩
end Go.Proofs.Qxb6615213a
