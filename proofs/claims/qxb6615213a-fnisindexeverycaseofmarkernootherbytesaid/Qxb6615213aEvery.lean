/-
  The walk of FnIsIndexEveryCaseOfMarkerNoOtherByte (4).
-/
import Derived.Test.Qxb6615213aClone
import Derived.Test.Qxb6615213aIndex
import Derived.Deep.QuietTactic
import Derived.BigQuiet
import Derived.Maps.AppendAt
namespace Go.Proofs.Qxb6615213a
open Go.RowKit Go.WideShapes

/-- The first bytes of the marker, each in some case. -/
def Cased (l : List Int) (k : Nat) : Prop := l.length = k ∧ l.map lowI = mkLow.take k ∧ ∀ x ∈ l, 0 ≤ x ∧ x ≤ 255
theorem Cased.snoc {l : List Int} {k : Nat} {c : Int} (h : Cased l k) (hk : mkLow[k]? = some (lowI c)) (hc : 0 ≤ c ∧ c ≤ 255) : Cased (l ++ [c]) (k + 1) := by
  obtain ⟨h1, h2, h3⟩ := h
  refine ⟨by simp [h1], ?_, ?_⟩
  · rw [List.map_append, h2, List.take_add_one, hk]
    rfl
  · intro x hx
    rcases List.mem_append.1 hx with hx | hx
    · exact h3 x hx
    · rw [List.mem_singleton.1 hx]; exact hc

theorem byte_le (x : UInt8) : (x.toNat : Int) ≤ 255 := by have := x.toNat_lt; omega
theorem byte_in (x : UInt8) : 0 ≤ (x.toNat : Int) ∧ (x.toNat : Int) ≤ 255 := ⟨Int.natCast_nonneg _, byte_le x⟩
theorem mark_at (k : Nat) (h : k < ({ data := #[79, 70, 68, 67, 70, 73, 68, 88] } : ByteArray).size) : mkLow[k]? = some (lowI ((({ data := #[79, 70, 68, 67, 70, 73, 68, 88] } : ByteArray)[k]'h).toNat : Int)) := by
  have h8 : k < 8 := h
  rcases (show k = 0 ∨ k = 1 ∨ k = 2 ∨ k = 3 ∨ k = 4 ∨ k = 5 ∨ k = 6 ∨ k = 7 from by omega) with rfl | rfl | rfl | rfl | rfl | rfl | rfl | rfl <;> rfl
theorem lowI_lowI (c : Int) : lowI (lowI c) = lowI c := by
  unfold lowI
  by_cases h : 65 ≤ c ∧ c ≤ 90
  · rw [if_pos h, if_neg (by omega)]
  · rw [if_neg h, if_neg h]
theorem byteVals_append (l m : List Int) : byteVals (l ++ m) = byteVals l ++ byteVals m := by simp [byteVals]
theorem byteVals_one (l : List Int) : ∀ u ∈ byteVals l, u.oneCell' = true := ints_oneCell _ _
/-- What a slice reads, as the law on append asks it. -/
theorem Seg.cells {w : World} {a : Option Addr} {n : Nat} {l : List Int} (h : Seg w a n l) : ∀ ad, a = some ad → ∀ j u, (byteVals l)[j]? = some u → w.cell? (ad.add j) = some u := by
  rintro ad rfl j u hu
  obtain ⟨h1, h2, h3⟩ := h
  have hj : j < l.length := by
    have := (List.getElem?_eq_some_iff.1 hu).1
    rwa [byteVals_length] at this
  rcases h3 with h3 | ⟨b, off, hx, hbl, hcell⟩
  · omega
  · obtain rfl : ad = ⟨b, off, none⟩ := by simpa using hx
    rw [add_plain, hcell j (by omega), ← hu]
    unfold byteVals
    rw [List.getElem?_map, List.getD_eq_getElem?_getD, List.getElem?_eq_getElem hj]
    rfl

theorem cased_idx {t : List Int} (l : List Int) (h : Cased t 8) : isIdx (t ++ l) = true := by
  obtain ⟨h1, h2, h3⟩ := h
  unfold isIdx
  rw [List.take_append_of_le_length (by omega), List.take_of_length_le (by omega), h2, decide_eq_true (by simp; omega)]
  rfl
theorem cased_set {t : List Int} (l : List Int) (h : Cased t 8) {p : Nat} (hp : p ≤ 7) (hp8 : p < ({ data := #[79, 70, 68, 67, 70, 73, 68, 88] } : ByteArray).size) {b : Int} (hb : 0 ≤ b ∧ b ≤ 255) :
    isIdx ((t ++ l).set p b) = (upI b == ((({ data := #[79, 70, 68, 67, 70, 73, 68, 88] } : ByteArray)[p]'hp8).toNat : Int)) := by
  obtain ⟨h1, h2, h3⟩ := h
  unfold isIdx
  rw [List.set_append_left _ _ (by omega), List.take_append_of_le_length (by rw [List.length_set]; omega), List.take_of_length_le (by rw [List.length_set]; omega), List.map_set, h2,
    decide_eq_true (by simp; omega), Bool.true_and, Bool.eq_iff_iff, beq_iff_eq, beq_iff_eq]
  have key : ∀ M : Int, 65 ≤ M → M ≤ 90 → (lowI b = M + 32 ↔ upI b = M) := by
    intro M m0 m1
    unfold lowI upI
    split <;> split <;> omega
  rcases (show p = 0 ∨ p = 1 ∨ p = 2 ∨ p = 3 ∨ p = 4 ∨ p = 5 ∨ p = 6 ∨ p = 7 from by omega) with rfl | rfl | rfl | rfl | rfl | rfl | rfl | rfl
  · show _ ↔ upI b = 79
    have := key 79 (by omega) (by omega); simpa [mkLow] using this
  · show _ ↔ upI b = 70
    have := key 70 (by omega) (by omega); simpa [mkLow] using this
  · show _ ↔ upI b = 68
    have := key 68 (by omega) (by omega); simpa [mkLow] using this
  · show _ ↔ upI b = 67
    have := key 67 (by omega) (by omega); simpa [mkLow] using this
  · show _ ↔ upI b = 70
    have := key 70 (by omega) (by omega); simpa [mkLow] using this
  · show _ ↔ upI b = 73
    have := key 73 (by omega) (by omega); simpa [mkLow] using this
  · show _ ↔ upI b = 68
    have := key 68 (by omega) (by omega); simpa [mkLow] using this
  · show _ ↔ upI b = 88
    have := key 88 (by omega) (by omega); simpa [mkLow] using this
theorem seg_drewN {w : World} {a : Option Addr} {n : Nat} {l : List Int} (h : Seg w a n l) (q : Nat) : Seg (w.drewN q) a n l := h
theorem byteVals_set (l : List Int) (p : Nat) (b : Int) : byteVals (l.set p b) = (byteVals l).set p (.int .u8 b) := by simp [byteVals]
theorem set_range {l : List Int} (h : ∀ x ∈ l, 0 ≤ x ∧ x ≤ 255) {p : Nat} {b : Int} (hb : 0 ≤ b ∧ b ≤ 255) : ∀ x ∈ l.set p b, 0 ≤ x ∧ x ≤ 255 := by
  intro x hx
  rcases List.mem_or_eq_of_mem_set hx with h' | h'
  · exact h x h'
  · rw [h']; exact hb
theorem append_range {l m : List Int} (h : ∀ x ∈ l, 0 ≤ x ∧ x ≤ 255) (h' : ∀ x ∈ m, 0 ≤ x ∧ x ≤ 255) : ∀ x ∈ l ++ m, 0 ≤ x ∧ x ≤ 255 := by
  intro x hx
  rcases List.mem_append.1 hx with hx | hx
  · exact h x hx
  · exact h' x hx
theorem Below.drawn {B : Nat} {a w : World} (h : Below B a w) (n : Nat) : Below B a (w.drewN n) := h.trans ⟨rfl, rfl, rfl, Nat.le_refl _, fun _ _ => rfl⟩

theorem every_big (m p b : Int) (a : Option Addr) (n c : Nat) (w : World) (hn : ¬ n ≤ 1048576) :
    Calls Try.prog 4 #[.int .u8 m, .int .i64 p, .int .u8 b, .slice a n c] w fun e w' => e = .returned (.bool true) ∧ w' = w := by
  have hh : (1048576 : Int) < (n : Int) := by omega
  go_enter Try.func4, Try.ntmps4
  go_wp2
  go_ret
  exact ⟨rfl, rfl⟩

theorem every_out (m p b : Int) (a : Option Addr) (n c : Nat) (w : World) (hn : n ≤ 1048576) (hp : p < 0 ∨ 7 < p) :
    Calls Try.prog 4 #[.int .u8 m, .int .i64 p, .int .u8 b, .slice a n c] w fun e w' => e = .returned (.bool true) ∧ w' = w := by
  have hh : (n : Int) ≤ 1048576 := by omega
  rcases hp with hp | hp
  · go_enter Try.func4, Try.ntmps4
    go_wp2
    go_ret
    exact ⟨rfl, rfl⟩
  · have hp0 : ¬ p < 0 := by omega
    go_enter Try.func4, Try.ntmps4
    go_wp2
    go_ret
    exact ⟨rfl, rfl⟩

set_option maxHeartbeats 1000000 in
theorem every_in (m b : Int) (p : Nat) (a : Option Addr) (n c : Nat) (l : List Int) (w : World) (hn : n ≤ 1048576) (hp : p ≤ 7) (hb0 : 0 ≤ b) (hb1 : b ≤ 255)
    (hseg : Seg w a n l) (ha : a = none → n = 0 ∧ c = 0) :
    Calls Try.prog 4 #[.int .u8 m, .int .i64 p, .int .u8 b, .slice a n c] w fun e w' => e = .returned (.bool true) ∧ Below w.heap.size w w' := by
  have hh : (n : Int) ≤ 1048576 := by omega
  have HA : Hid (a = none → n = 0 ∧ c = 0) := ha
  have HSEG : Hid (Seg w a n l) := hseg
  clear ha hseg
  obtain ⟨i0, hi, hz0, hz1, hz2⟩ := info_parts info5
  have hlim : i0.bytes * (8 + n) ≤ 281474976710656 := by rw [hz2]; omega
  have hmax : 8 + n ≤ maxLen := by unfold maxLen; omega
  go_enter Try.func4, Try.ntmps4
  go_wp2_with (go_at_call 11; go_in)
  refine (clone_any a n c l w HSEG.out HA.out (by omega)).mono ?_
  rintro e w1 ⟨a1, rfl, hnn, hss, hown1, hbel1⟩
  have HO1 : Hid (w1.ownsRow w.heap.size 5 1 (.slice a1 n n) n (byteVals l)) := hown1
  have HN1 : Hid (a1 = none → n = 0 ∧ n = 0) := fun h => by
    cases a with
    | none => exact ⟨(HA.out rfl).1, (HA.out rfl).1⟩
    | some x => rw [hss (by simp)] at h; cases h
  clear hnn hss hown1
  go_wp2_with (at_make; refine wpList_make_own _ rfl _ _ 22 rfl w1.heap.size 5 i0 (.int .u8 0) 1 Try.underlying22 hi hz0 hz1 _ _ _ (8 + n) rfl rfl (by omega) hlim hmax (Nat.le_refl _) ?_)
  intro w2 hown2 hgrow2
  have hbel2 : Below w1.heap.size w1 w2 := (Below.refl _ _).grown hgrow2 (Nat.le_refl _) (fun k hk => by cases hk)
  have HO2 : Hid (w2.ownsRow w1.heap.size 5 1 (.slice (some ⟨w1.heap.size, 0, none⟩) 0 (8 + n)) 0 (byteVals [])) := hown2
  clear hown2 hgrow2
  go_wp2
  go_loopw [9, 10] (fun v i wr => ∃ k : Nat, k ≤ 8 ∧ i = .int .i64 k ∧ v = .slice (some ⟨w1.heap.size, 0, none⟩) k (8 + n) ∧ (∃ t, Cased t k ∧ wr.ownsRow w1.heap.size 5 1 (.slice (some ⟨w1.heap.size, 0, none⟩) k (8 + n)) k (byteVals t)) ∧ Below w1.heap.size w1 wr)
    (fun _ i _ => 8 - (intOf i).toNat)
  case atStart => exact ⟨0, by omega, rfl, rfl, ⟨[], ⟨rfl, rfl, by simp⟩, HO2.out⟩, hbel2⟩
  case round =>
    obtain ⟨k, hk, rfl, rfl, ⟨t, hct, hownt⟩, hbelr⟩ := hrel
    have HOT : Hid (wr.ownsRow w1.heap.size 5 1 (.slice (some ⟨w1.heap.size, 0, none⟩) k (8 + n)) k (byteVals t)) := hownt
    have HCT : Hid (Cased t k) := hct
    clear hownt hct hbel2 HO2
    by_cases hlt : k < 8
    · have hsz : w1.heap.size ≤ wr.heap.size := hbelr.size
      go_wp2_with (first | (go_at_call 12; refine (lower_w _ _ (Int.natCast_nonneg _) (byte_le _)).mono ?_; rintro e w' ⟨rfl, rfl⟩) | (at_builtin; refine wpList_append_fits _ rfl (.tmp 50) (.tmp 52) 22 rfl w1.heap.size 5 i0 1 Try.underlying22 hi hz1 w1.heap.size k (8 + n) (byteVals t) rfl (HOT.out.alloc _) ⟨wr.heap.size, 0, none⟩ 1 1 _ rfl rfl (cell_one_new _ _ _) (by intro u hu; simp at hu; subst hu; rfl) (by omega) ?_; intro w3 hown3 hgrow3))
      · go_roundw
        case rel => exact ⟨k + 1, by omega, by go_num, rfl, ⟨t ++ [_], HCT.out.snoc (by rw [lowI_lowI]; exact mark_at k hlt) (lowI_range (byte_in _)), by rw [byteVals_append]; exact hown3⟩, (hbelr.alloc hsz _).grown hgrow3 (by simp; omega) (fun j hj => by simp at hj; omega)⟩
        case measure => simp [intOf]; omega
      · go_roundw
        case rel => exact ⟨k + 1, by omega, by go_num, rfl, ⟨t ++ [_], HCT.out.snoc (mark_at k hlt) (byte_in _), by rw [byteVals_append]; exact hown3⟩, (hbelr.alloc hsz _).grown hgrow3 (by simp; omega) (fun j hj => by simp at hj; omega)⟩
        case measure => simp [intOf]; omega
    · obtain rfl : k = 8 := by omega
      have hsegt : Seg wr a1 n l := (seg_of_own_any HO1.out HSEG.out.2.1).below hbelr
      have HSG : Hid (Seg wr a1 n l) := hsegt
      clear hsegt
      go_wp2_with (at_builtin; refine wpList_append_fits_any _ rfl (.tmp 54) (.tmp 55) 22 rfl w1.heap.size 5 i0 1 Try.underlying22 hi hz1 w1.heap.size 8 (8 + n) (byteVals t) rfl HOT.out a1 n n (byteVals l) rfl (by rw [byteVals_length, HSG.out.1]; omega) HN1.out HSG.out.cells (byteVals_one l) (by omega) ?_; intro w3 hown3 hgrow3)
      have hrng : ∀ x ∈ t ++ l, 0 ≤ x ∧ x ≤ 255 := append_range HCT.out.2.2 HSEG.out.2.1
      rw [← byteVals_append] at hown3
      have hsz : w1.heap.size ≤ wr.heap.size := hbelr.size
      have hb3 : Below w.heap.size w w3 := hbel1.trans ((hbelr.mono hbel1.size).trans ((Below.refl _ _).grown hgrow3 (by have := hbel1.size; omega) (fun j hj => by simp at hj; have := hbel1.size; omega)))
      have HS3 : Hid (Seg w3 (some ⟨w1.heap.size, 0, none⟩) (8 + n) (t ++ l)) := seg_of_own hown3 hrng
      have HB3 : Hid (Below w.heap.size w w3) := hb3
      have HRN : Hid (∀ x ∈ t ++ l, 0 ≤ x ∧ x ≤ 255) := hrng
      clear hown3 hgrow3 hb3 hrng hbelr hsz hbel1 HOT HSG HO1 HN1 HSEG HA hi hz0 hz1 hz2 hlim hmax
      refine (isIndex_any _ _ _ _ _ HS3.out (by omega)).mono ?_
      rintro e w4 ⟨rfl, hb4⟩
      rw [cased_idx l HCT.out]
      have HB4 : Hid (Below w3.heap.size w3 w4) := hb4
      clear hb4
      go_wp2
      go_loop [12] (fun i => ∃ k : Nat, k ≤ 8 ∧ i = .int .i64 k) (fun i => 8 - (intOf i).toNat)
      case atStart => exact ⟨0, by omega, rfl⟩
      case round =>
        obtain ⟨k, hk, rfl⟩ := hrel
        by_cases hlt : k < 8
        · go_wp2_with (go_at_call 8; refine (isIndex_short_w _ _ _ hlt _).mono ?_; rintro e w' ⟨rfl, rfl⟩)
          go_round
          case rel => exact ⟨k + 1, by omega, by go_num⟩
          case measure => simp [intOf]; omega
        · go_wp2_with fail
          have hb3z := HB3.out.size
          refine (clone_some _ _ _ _ _ (HS3.out.below HB4.out) (by omega)).mono ?_
          rintro e w5 ⟨rfl, hown5, hb5⟩
          have hln : p < (byteVals (t ++ l)).length := by rw [byteVals_length, List.length_append, HCT.out.1]; omega
          have hcp : w5.cell? ⟨w4.heap.size, p, none⟩ = some ((byteVals (t ++ l))[p]) := by rw [hown5.cellAt p (by omega)]; exact List.getElem?_eq_getElem hln
          obtain ⟨v, hv⟩ : ∃ v, v = (byteVals (t ++ l))[p] := ⟨_, rfl⟩
          rw [← hv] at hcp
          have hfp : w5.frozen? ⟨w4.heap.size, p, none⟩ = false := hown5.frozenAt p
          have hst := (hown5.stored p (.int .u8 b)).1
          rw [← byteVals_set] at hst
          have HS6 : Hid (Seg (w5.setCell ⟨w4.heap.size, p, none⟩ (.int .u8 b)) (some ⟨w4.heap.size, 0, none⟩) (8 + n) ((t ++ l).set p b)) := seg_of_own hst (set_range HRN.out ⟨hb0, hb1⟩)
          have HB6 : Hid (Below w.heap.size w (w5.setCell ⟨w4.heap.size, p, none⟩ (.int .u8 b))) := (HB3.out.trans ((HB4.out.mono hb3z).trans (hb5.mono (Nat.le_trans hb3z HB4.out.size)))).setCell (Nat.le_trans hb3z HB4.out.size) _
          clear hv hln hst hown5 hb5 hb3z
          have hp0 : (0 : Int) ≤ (p : Int) := by omega
          have hp8 : (p : Int) < 8 := by omega
          have hpl : (p : Int) < 8 + (n : Int) := by omega
          go_wp2
          go_quiet ((go_at_call 13; exact Calls.quiet_of_same (upper_any _ _ hb0 hb1)))
          go_wp2_with fail
          refine (isIndex_any _ _ _ _ _ (seg_drewN HS6.out _) (by omega)).mono ?_
          rintro e w7 ⟨rfl, hb7⟩
          have hp8' : p < ({ data := #[79, 70, 68, 67, 70, 73, 68, 88] } : ByteArray).size := by show p < 8; omega
          rw [cased_set l HCT.out hp hp8' ⟨hb0, hb1⟩]
          go_wp2
          go_ret
          exact ⟨ret_bool (by simp), (Below.drawn HB6.out _).trans (hb7.mono HB6.out.size)⟩
end Go.Proofs.Qxb6615213a
