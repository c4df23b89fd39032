/-
  The walk of FnIsIndexCaseBlindOnFirstEightBytes (3).
-/
import Derived.Test.Qxb6615213aRecase
import Derived.Maps.AppendAt
namespace Go.Proofs.Qxb6615213a
open Go.RowKit Go.WideShapes

theorem low_up (c : Int) : lowI (upI c) = lowI c := by
  unfold lowI upI
  by_cases h : 97 ≤ c ∧ c ≤ 122
  · rw [if_pos h, if_pos (by omega), if_neg (by omega)]; omega
  · rw [if_neg h]
theorem low_low (c : Int) : lowI (lowI c) = lowI c := by
  unfold lowI
  by_cases h : 65 ≤ c ∧ c ≤ 90
  · rw [if_pos h, if_neg (by omega)]
  · rw [if_neg h, if_neg h]
theorem idx_up (l : List Int) : isIdx (l.map upI) = isIdx l := by
  unfold isIdx
  rw [List.length_map, ← List.map_take, List.map_map, show (lowI ∘ upI) = lowI from funext low_up]
theorem idx_low (l : List Int) : isIdx (l.map lowI) = isIdx l := by
  unfold isIdx
  rw [List.length_map, ← List.map_take, List.map_map, show (lowI ∘ lowI) = lowI from funext low_low]
theorem idx_join {l : List Int} (t : List Int) (h : 8 ≤ l.length) : isIdx (l.take 8 ++ t) = isIdx l := by
  unfold isIdx
  rw [List.take_append_of_le_length (by rw [List.length_take]; omega), List.take_take, Nat.min_self, decide_eq_true h, decide_eq_true (by simp; omega)]
theorem up_iff_low {c M : Int} (h0 : 65 ≤ M) (h1 : M ≤ 90) : upI c = M ↔ lowI c = M + 32 := by
  unfold upI lowI
  split <;> split <;> omega
theorem idx_want {l : List Int} (h : 8 ≤ l.length) : isIdx l = ((l.take 8).map upI == mkUp) := by
  unfold isIdx
  rw [decide_eq_true h, Bool.true_and, Bool.eq_iff_iff, beq_iff_eq, beq_iff_eq]
  obtain ⟨c0, c1, c2, c3, c4, c5, c6, c7, r, rfl⟩ : ∃ c0 c1 c2 c3 c4 c5 c6 c7 r, l = c0 :: c1 :: c2 :: c3 :: c4 :: c5 :: c6 :: c7 :: r := by
    match l, h with
    | c0 :: c1 :: c2 :: c3 :: c4 :: c5 :: c6 :: c7 :: r, _ => exact ⟨c0, c1, c2, c3, c4, c5, c6, c7, r, rfl⟩
  simp only [List.take_succ_cons, List.take_zero, List.map_cons, List.map_nil, mkLow, mkUp, List.cons.injEq, and_true]
  have k0 := @up_iff_low c0 79 (by omega) (by omega)
  have k1 := @up_iff_low c1 70 (by omega) (by omega)
  have k2 := @up_iff_low c2 68 (by omega) (by omega)
  have k3 := @up_iff_low c3 67 (by omega) (by omega)
  have k4 := @up_iff_low c4 70 (by omega) (by omega)
  have k5 := @up_iff_low c5 73 (by omega) (by omega)
  have k6 := @up_iff_low c6 68 (by omega) (by omega)
  have k7 := @up_iff_low c7 88 (by omega) (by omega)
  rw [k0, k1, k2, k3, k4, k5, k6, k7]
  simp

theorem blind_big (a0 a1 : Option Addr) (n0 c0 n1 c1 : Nat) (w : World) (hn : ¬ (n0 + n1 ≤ 1048576)) (hm0 : n0 ≤ 9223372036854775807) (hm1 : n1 ≤ 9223372036854775807) :
    Calls Try.prog 3 #[.slice a0 n0 c0, .slice a1 n1 c1] w fun e w' => e = .returned (.bool true) ∧ w' = w := by
  by_cases h0 : n0 ≤ 1048576
  · have h0' : (n0 : Int) ≤ 1048576 := by omega
    by_cases h1 : n1 ≤ 1048576
    · have h1' : (n1 : Int) ≤ 1048576 := by omega
      have h2 : (1048576 : Int) < (n0 : Int) + (n1 : Int) := by omega
      go_enter Try.func3, Try.ntmps3
      go_wp2
      go_ret
      exact ⟨rfl, rfl⟩
    · have h1' : (1048576 : Int) < (n1 : Int) := by omega
      go_enter Try.func3, Try.ntmps3
      go_wp2
      go_ret
      exact ⟨rfl, rfl⟩
  · have h0' : (1048576 : Int) < (n0 : Int) := by omega
    go_enter Try.func3, Try.ntmps3
    go_wp2
    go_ret
    exact ⟨rfl, rfl⟩

/-- zzB1Recase at every slice, at 0. -/
theorem recase_up_any (a : Option Addr) (n c : Nat) (l : List Int) (w : World) (h : Seg w a n l) (ha : a = none → n = 0 ∧ c = 0) (hn : n ≤ 1048600) :
    Calls Try.prog 10 #[.slice a n c, .int .i64 0] w fun e w' => ∃ a', e = .returned (.slice a' n n) ∧ Seg w' a' n (l.map upI) ∧ Below w.heap.size w w' := by
  cases a with
  | none =>
    obtain ⟨rfl, rfl⟩ := ha rfl
    obtain rfl : l = [] := List.length_eq_zero_iff.1 h.1
    refine (recase_nil 0 w).mono ?_
    rintro e w' ⟨rfl, rfl⟩
    exact ⟨none, rfl, ⟨rfl, by simp, .inl rfl⟩, Below.refl _ _⟩
  | some x =>
    refine (recase_up x n c l w h hn).mono ?_
    rintro e w' ⟨rfl, ho, hb⟩
    exact ⟨_, rfl, seg_of_own ho (map_range upI_range h.2.1), hb⟩
/-- zzB1Recase at every slice, at 1. -/
theorem recase_low_any (a : Option Addr) (n c : Nat) (l : List Int) (w : World) (h : Seg w a n l) (ha : a = none → n = 0 ∧ c = 0) (hn : n ≤ 1048600) :
    Calls Try.prog 10 #[.slice a n c, .int .i64 1] w fun e w' => ∃ a', e = .returned (.slice a' n n) ∧ Seg w' a' n (l.map lowI) ∧ Below w.heap.size w w' := by
  cases a with
  | none =>
    obtain ⟨rfl, rfl⟩ := ha rfl
    obtain rfl : l = [] := List.length_eq_zero_iff.1 h.1
    refine (recase_nil 1 w).mono ?_
    rintro e w' ⟨rfl, rfl⟩
    exact ⟨none, rfl, ⟨rfl, by simp, .inl rfl⟩, Below.refl _ _⟩
  | some x =>
    refine (recase_low x n c l w h hn).mono ?_
    rintro e w' ⟨rfl, ho, hb⟩
    exact ⟨_, rfl, seg_of_own ho (map_range lowI_range h.2.1), hb⟩

theorem clone_nil_iff {a a' : Option Addr} {n c m : Nat} (ha : a = none → n = 0 ∧ c = 0) (hss : a ≠ none → a' = some ⟨m, 0, none⟩) : a' = none → n = 0 ∧ n = 0 := by
  intro h
  cases a with
  | none => exact ⟨(ha rfl).1, (ha rfl).1⟩
  | some x => rw [hss (by simp)] at h; cases h

set_option maxHeartbeats 2000000 in
theorem blind_short (a0 a1 : Option Addr) (n0 c0 n1 c1 : Nat) (l0 l1 : List Int) (w : World) (hn : n0 + n1 ≤ 1048576) (h8 : n0 < 8) (hs0 : Seg w a0 n0 l0) (hs1 : Seg w a1 n1 l1) (ha0 : a0 = none → n0 = 0 ∧ c0 = 0) (ha1 : a1 = none → n1 = 0 ∧ c1 = 0) :
    Calls Try.prog 3 #[.slice a0 n0 c0, .slice a1 n1 c1] w fun e w' => e = .returned (.bool true) ∧ Below w.heap.size w w' := by
  have hh0 : (n0 : Int) ≤ 1048576 := by omega
  have hh1 : (n1 : Int) ≤ 1048576 := by omega
  have hh2 : (n0 : Int) + (n1 : Int) ≤ 1048576 := by omega
  have hh8 : ¬ (8 : Int) ≤ (n0 : Int) := by omega
  have HS0 : Hid (Seg w a0 n0 l0) := hs0
  have HS1 : Hid (Seg w a1 n1 l1) := hs1
  have HA0 : Hid (a0 = none → n0 = 0 ∧ c0 = 0) := ha0
  have HA1 : Hid (a1 = none → n1 = 0 ∧ c1 = 0) := ha1
  have HF : Hid (isIdx l0 = false) := by
    show isIdx l0 = false
    unfold isIdx
    rw [decide_eq_false (by rw [hs0.1]; omega), Bool.false_and]
  clear hs0 hs1 ha0 ha1
  go_enter Try.func3, Try.ntmps3
  go_wp2_with (go_at_call 6; go_in)
  refine (clone_any a0 n0 c0 l0 w HS0.out HA0.out (by omega)).mono ?_
  rintro e w1 ⟨b0, rfl, _, hss, hown1, hb1⟩
  have HN0 : Hid (b0 = none → n0 = 0 ∧ n0 = 0) := clone_nil_iff HA0.out hss
  have HT1 : Hid (Seg w1 b0 n0 l0) := seg_of_own_any hown1 HS0.out.2.1
  have HB1 : Hid (Below w.heap.size w w1) := hb1
  clear hss hown1 hb1
  go_wp2_with fail
  refine (clone_any a1 n1 c1 l1 w1 (HS1.out.below HB1.out) HA1.out (by omega)).mono ?_
  rintro e w2 ⟨b1, rfl, _, _, _, hb2⟩
  have HT2 : Hid (Seg w2 b0 n0 l0) := HT1.out.below hb2
  have HB2 : Hid (Below w.heap.size w w2) := HB1.out.trans (hb2.mono HB1.out.size)
  clear hb2
  go_wp2_with fail
  refine (isIndex_any _ _ _ l0 w2 HT2.out (by omega)).mono ?_
  rintro e w3 ⟨rfl, hb3⟩
  rw [HF.out]
  have HT3 : Hid (Seg w3 b0 n0 l0) := HT2.out.below hb3
  have HB3 : Hid (Below w.heap.size w w3) := HB2.out.trans (hb3.mono HB2.out.size)
  clear hb3
  go_wp2_with fail
  refine (recase_up_any b0 n0 n0 l0 w3 HT3.out HN0.out (by omega)).mono ?_
  rintro e w4 ⟨d0, rfl, hs4, hb4⟩
  have HU4 : Hid (Seg w4 d0 n0 (l0.map upI)) := hs4
  have HT4 : Hid (Seg w4 b0 n0 l0) := HT3.out.below hb4
  have HB4 : Hid (Below w.heap.size w w4) := HB3.out.trans (hb4.mono HB3.out.size)
  clear hb4 hs4
  go_wp2_with fail
  refine (isIndex_any _ _ _ _ w4 HU4.out (by omega)).mono ?_
  rintro e w5 ⟨rfl, hb5⟩
  rw [idx_up, HF.out]
  have HT5 : Hid (Seg w5 b0 n0 l0) := HT4.out.below hb5
  have HB5 : Hid (Below w.heap.size w w5) := HB4.out.trans (hb5.mono HB4.out.size)
  clear hb5
  go_wp2_with fail
  refine (recase_low_any b0 n0 n0 l0 w5 HT5.out HN0.out (by omega)).mono ?_
  rintro e w6 ⟨d1, rfl, hs6, hb6⟩
  have HU6 : Hid (Seg w6 d1 n0 (l0.map lowI)) := hs6
  have HB6 : Hid (Below w.heap.size w w6) := HB5.out.trans (hb6.mono HB5.out.size)
  clear hb6 hs6
  go_wp2_with fail
  refine (isIndex_any _ _ _ _ w6 HU6.out (by omega)).mono ?_
  rintro e w7 ⟨rfl, hb7⟩
  rw [idx_low, HF.out]
  have HB7 : Hid (Below w.heap.size w w7) := HB6.out.trans (hb7.mono HB6.out.size)
  clear hb7
  go_wp2
  go_ret
  exact ⟨rfl, HB7.out⟩

theorem Seg.vals {w : World} {a : Option Addr} {n : Nat} {l : List Int} (h : Seg w a n l) : ∀ ad, a = some ad → ∀ j u, (byteVals l)[j]? = some u → w.cell? (ad.add j) = some u := by
  rintro ad rfl j u hu
  obtain ⟨h1, h2, h3⟩ := h
  have hj : j < l.length := by
    have := (List.getElem?_eq_some_iff.1 hu).1
    rwa [byteVals_length] at this
  rcases h3 with h3 | ⟨b, off, hx, hbl, hcell⟩
  · omega
  · obtain rfl : ad = ⟨b, off, none⟩ := by simpa using hx
    rw [add_plain, hcell j (by omega), ← hu]
    unfold byteVals
    rw [List.getElem?_map, List.getD_eq_getElem?_getD, List.getElem?_eq_getElem hj]
    rfl
theorem Seg.take {w : World} {a : Option Addr} {n : Nat} {l : List Int} (h : Seg w a n l) {k : Nat} (hk : k ≤ n) : Seg w a k (l.take k) := by
  obtain ⟨h1, h2, h3⟩ := h
  refine ⟨by rw [List.length_take]; omega, fun x hx => h2 x (List.mem_of_mem_take hx), ?_⟩
  rcases h3 with h3 | ⟨b, off, hx, hbl, hcell⟩
  · exact .inl (by omega)
  · refine .inr ⟨b, off, hx, hbl, fun i hi => ?_⟩
    rw [hcell i (by omega), List.getD_eq_getElem?_getD, List.getD_eq_getElem?_getD, List.getElem?_take, if_pos hi]
theorem Seg.at {w : World} {b off n : Nat} {l : List Int} (h : Seg w (some ⟨b, off, none⟩) n l) : ∀ i, i < n → w.cell? ⟨b, off + i, none⟩ = some (.int .u8 (l.getD i 0)) := by
  obtain ⟨h1, h2, h3⟩ := h
  rcases h3 with h3 | ⟨b', off', hx, hbl, hcell⟩
  · intro i hi; omega
  · simp at hx
    obtain ⟨rfl, rfl⟩ := hx
    exact hcell
theorem Below.drawn {B : Nat} {a w : World} (h : Below B a w) (n : Nat) : Below B a (w.drewN n) := h.trans ⟨rfl, rfl, rfl, Nat.le_refl _, fun _ _ => rfl⟩
theorem vals_append (l m : List Int) : byteVals (l ++ m) = byteVals l ++ byteVals m := by simp [byteVals]
theorem vals_one (l : List Int) : ∀ u ∈ byteVals l, u.oneCell' = true := ints_oneCell _ _

theorem below_grown {w8 w9 w10 : World} (hb : Below w8.heap.size w8 w9) (hg : w9.grownBy w10 (some w8.heap.size)) : Below w8.heap.size w8 w10 :=
  hb.grown hg hb.size (fun j hj => by simp at hj; omega)

set_option maxHeartbeats 2000000 in
theorem blind_long (x : Addr) (a1 : Option Addr) (n0 c0 n1 c1 : Nat) (l0 l1 : List Int) (w : World) (hn : n0 + n1 ≤ 1048576) (h8 : 8 ≤ n0) (hs0 : Seg w (some x) n0 l0) (hs1 : Seg w a1 n1 l1) (ha1 : a1 = none → n1 = 0 ∧ c1 = 0) :
    Calls Try.prog 3 #[.slice (some x) n0 c0, .slice a1 n1 c1] w fun e w' => e = .returned (.bool true) ∧ Below w.heap.size w w' := by
  have hh0 : (n0 : Int) ≤ 1048576 := by omega
  have hh1 : (n1 : Int) ≤ 1048576 := by omega
  have hh2 : (n0 : Int) + (n1 : Int) ≤ 1048576 := by omega
  have hh8 : (8 : Int) ≤ (n0 : Int) := by omega
  have HS0 : Hid (Seg w (some x) n0 l0) := hs0
  have HS1 : Hid (Seg w a1 n1 l1) := hs1
  have HA1 : Hid (a1 = none → n1 = 0 ∧ c1 = 0) := ha1
  have HL : Hid (8 ≤ l0.length) := by show 8 ≤ l0.length; rw [hs0.1]; exact h8
  clear hs0 hs1 ha1
  obtain ⟨i0, hi, hz0, hz1, hz2⟩ := info_parts info5
  have hlim : i0.bytes * (8 + n1) ≤ 281474976710656 := by rw [hz2]; omega
  have hmax : 8 + n1 ≤ maxLen := by unfold maxLen; omega
  go_enter Try.func3, Try.ntmps3
  go_wp2_with (go_at_call 6; go_in)
  refine (clone_some x n0 c0 l0 w HS0.out (by omega)).mono ?_
  rintro e w1 ⟨rfl, hown1, hb1⟩
  have HT1 : Hid (Seg w1 (some ⟨w.heap.size, 0, none⟩) n0 l0) := seg_of_own hown1 HS0.out.2.1
  have HB1 : Hid (Below w.heap.size w w1) := hb1
  clear hown1 hb1
  go_wp2_with fail
  refine (clone_any a1 n1 c1 l1 w1 (HS1.out.below HB1.out) HA1.out (by omega)).mono ?_
  rintro e w2 ⟨b1, rfl, _, hss, hown2, hb2⟩
  have HN1 : Hid (b1 = none → n1 = 0 ∧ n1 = 0) := clone_nil_iff HA1.out hss
  have HV2 : Hid (Seg w2 b1 n1 l1) := seg_of_own_any hown2 HS1.out.2.1
  have HT2 : Hid (Seg w2 (some ⟨w.heap.size, 0, none⟩) n0 l0) := HT1.out.below hb2
  have HB2 : Hid (Below w.heap.size w w2) := HB1.out.trans (hb2.mono HB1.out.size)
  clear hb2 hss hown2
  go_wp2_with fail
  refine (isIndex_any _ _ _ l0 w2 HT2.out (by omega)).mono ?_
  rintro e w3 ⟨rfl, hb3⟩
  have HT3 : Hid (Seg w3 (some ⟨w.heap.size, 0, none⟩) n0 l0) := HT2.out.below hb3
  have HV3 : Hid (Seg w3 b1 n1 l1) := HV2.out.below hb3
  have HB3 : Hid (Below w.heap.size w w3) := HB2.out.trans (hb3.mono HB2.out.size)
  clear hb3
  obtain ⟨G, hG⟩ : ∃ G, G = isIdx l0 := ⟨_, rfl⟩
  rw [← hG]
  have HG : Hid (G = isIdx l0) := hG
  clear hG
  go_wp2_with fail
  refine (upperEq_any w.heap.size 0 n0 (l0.take 8) w3 (by rw [List.length_take]; have := HL.out; omega) (HT3.out.take h8).at).mono ?_
  rintro e w4 ⟨rfl, q, rfl⟩
  rw [← idx_want HL.out, ← HG.out]
  have HT4 : Hid (Seg (w3.drewN q) (some ⟨w.heap.size, 0, none⟩) n0 l0) := HT3.out
  have HV4 : Hid (Seg (w3.drewN q) b1 n1 l1) := HV3.out
  have HB4 : Hid (Below w.heap.size w (w3.drewN q)) := Below.drawn HB3.out q
  obtain ⟨W4, hW4⟩ : ∃ W4, W4 = w3.drewN q := ⟨_, rfl⟩
  rw [← hW4] at HT4 HV4 HB4 ⊢
  clear hW4 HT3 HV3 HB3 HT2 HV2 HB2 HT1 HB1
  go_wp2_with fail
  refine (recase_up_any _ n0 n0 l0 W4 HT4.out (by simp) (by omega)).mono ?_
  rintro e w5 ⟨d0, rfl, hs5, hb5⟩
  have HU5 : Hid (Seg w5 d0 n0 (l0.map upI)) := hs5
  have HT5 : Hid (Seg w5 (some ⟨w.heap.size, 0, none⟩) n0 l0) := HT4.out.below hb5
  have HV5 : Hid (Seg w5 b1 n1 l1) := HV4.out.below hb5
  have HB5 : Hid (Below w.heap.size w w5) := HB4.out.trans (hb5.mono HB4.out.size)
  clear hb5 hs5
  go_wp2_with fail
  refine (isIndex_any _ _ _ _ w5 HU5.out (by omega)).mono ?_
  rintro e w6 ⟨rfl, hb6⟩
  rw [idx_up, ← HG.out]
  have HT6 : Hid (Seg w6 (some ⟨w.heap.size, 0, none⟩) n0 l0) := HT5.out.below hb6
  have HV6 : Hid (Seg w6 b1 n1 l1) := HV5.out.below hb6
  have HB6 : Hid (Below w.heap.size w w6) := HB5.out.trans (hb6.mono HB5.out.size)
  clear hb6
  go_wp2_with fail
  refine (recase_low_any _ n0 n0 l0 w6 HT6.out (by simp) (by omega)).mono ?_
  rintro e w7 ⟨d1, rfl, hs7, hb7⟩
  have HU7 : Hid (Seg w7 d1 n0 (l0.map lowI)) := hs7
  have HT7 : Hid (Seg w7 (some ⟨w.heap.size, 0, none⟩) n0 l0) := HT6.out.below hb7
  have HV7 : Hid (Seg w7 b1 n1 l1) := HV6.out.below hb7
  have HB7 : Hid (Below w.heap.size w w7) := HB6.out.trans (hb7.mono HB6.out.size)
  clear hb7 hs7
  go_wp2_with fail
  refine (isIndex_any _ _ _ _ w7 HU7.out (by omega)).mono ?_
  rintro e w8 ⟨rfl, hb8⟩
  rw [idx_low, ← HG.out]
  have HT8 : Hid (Seg w8 (some ⟨w.heap.size, 0, none⟩) n0 l0) := HT7.out.below hb8
  have HV8 : Hid (Seg w8 b1 n1 l1) := HV7.out.below hb8
  have HB8 : Hid (Below w.heap.size w w8) := HB7.out.trans (hb8.mono HB7.out.size)
  clear hb8 HT4 HT5 HT6 HT7 HV4 HV5 HV6 HV7 HB4 HB5 HB6 HB7 HU5 HU7
  go_wp2_with (at_make; refine wpList_make_own _ rfl _ _ 22 rfl w8.heap.size 5 i0 (.int .u8 0) 1 Try.underlying22 hi hz0 hz1 _ _ _ (8 + n1) rfl rfl (by omega) hlim hmax (Nat.le_refl _) ?_)
  intro w9 hown9 hgrow9
  have hb9 : Below w8.heap.size w8 w9 := (Below.refl _ _).grown hgrow9 (Nat.le_refl _) (fun k hk => by cases hk)
  have HO9 : Hid (w9.ownsRow w8.heap.size 5 1 (.slice (some ⟨w8.heap.size, 0, none⟩) 0 (8 + n1)) 0 []) := hown9
  have HT9 : Hid (Seg w9 (some ⟨w.heap.size, 0, none⟩) 8 (l0.take 8)) := (HT8.out.below hb9).take h8
  have HV9 : Hid (Seg w9 b1 n1 l1) := HV8.out.below hb9
  have HB9 : Hid (Below w8.heap.size w8 w9) := hb9
  clear hown9 hgrow9 hb9
  go_wp2_with (first | (at_builtin; refine wpList_append_fits _ rfl (.tmp 59) (.tmp 61) 22 rfl w8.heap.size 5 i0 1 Try.underlying22 hi hz1 w8.heap.size 0 (8 + n1) [] rfl HO9.out ⟨w.heap.size, 0, none⟩ 8 n0 (byteVals (l0.take 8)) rfl (by rw [byteVals_length, HT9.out.1]) (HT9.out.vals _ rfl) (vals_one _) (by omega) ?_; intro w10 hown10 hgrow10; rw [Nat.zero_add, List.nil_append] at hown10) | (at_builtin; refine wpList_append_fits_any _ rfl (.tmp 63) (.tmp 64) 22 rfl w8.heap.size 5 i0 1 Try.underlying22 hi hz1 w8.heap.size 8 (8 + n1) (byteVals (l0.take 8)) rfl hown10 b1 n1 n1 (byteVals l1) rfl (by rw [byteVals_length, HV8.out.1]; omega) HN1.out (HV8.out.below (below_grown HB9.out hgrow10)).vals (vals_one l1) (by omega) ?_; intro w11 hown11 hgrow11))
  rw [← vals_append] at hown11
  have HJ : Hid (Seg w11 (some ⟨w8.heap.size, 0, none⟩) (8 + n1) (l0.take 8 ++ l1)) := seg_of_own hown11 (by
    intro y hy
    rcases List.mem_append.1 hy with hy | hy
    · exact HS0.out.2.1 y (List.mem_of_mem_take hy)
    · exact HS1.out.2.1 y hy)
  have hb11 : Below w8.heap.size w8 w11 := below_grown (below_grown HB9.out hgrow10) hgrow11
  have HB11 : Hid (Below w.heap.size w w11) := HB8.out.trans (hb11.mono HB8.out.size)
  clear hown10 hgrow10 hown11 hgrow11 hb11
  refine (isIndex_any _ _ _ _ w11 HJ.out (by omega)).mono ?_
  rintro e w12 ⟨rfl, hb12⟩
  rw [idx_join l1 HL.out, ← HG.out]
  have HB12 : Hid (Below w.heap.size w w12) := HB11.out.trans (hb12.mono HB11.out.size)
  clear hb12
  go_wp2
  go_ret
  exact ⟨ret_bool (by simp), HB12.out⟩
end Go.Proofs.Qxb6615213a
