/-
  The walk of FnEndsCutAnywhereAgrees (3) at a nil slice.
-/
import Derived.Test.Qxb6616063aLaw
namespace Go.Proofs.Qxb6616063a
open Go.RowKit Go.WideShapes

set_option maxHeartbeats 4000000 in
theorem law_nil (r s : ByteArray) (kk i1 i2 i3 i4 : Int) (w : World) (hr : r.size ≤ 9223372036854775807) (hs : s.size ≤ 9223372036854775807) :
    Calls Try.prog 3 #[.string r, .string s, .slice none 0 0, .int .i64 kk, .int .i64 i1, .int .i64 i2, .int .i64 i3, .int .i64 i4] w (Good w) := by
  have HZ : Hid (r.size ≤ 9223372036854775807 ∧ s.size ≤ 9223372036854775807) := ⟨hr, hs⟩
  clear hr hs
  go_enter Try.func3, Try.ntmps3
  go_wp2_with fail
  refine (bytes_zero r s none 0 kk i1 i2 i3 i4 w HZ.out.1 HZ.out.2).mono ?_
  rintro e w' ⟨q, rfl, rfl, hq⟩
  cases q with
  | false =>
    clear hq
    go_wp2
    go_ret
    exact ⟨rfl, Below.refl _ _⟩
  | true =>
    have HSM : Hid (r.size ≤ 1048576 ∧ s.size ≤ 1048576) := hq rfl
    clear hq
    go_wp2_with fail
    refine (fit_zero r s none 0 w HSM.out.1 HSM.out.2).mono ?_
    rintro e w' ⟨q, rfl, rfl, _⟩
    cases q with
    | false =>
      go_wp2
      go_ret
      exact ⟨rfl, Below.refl _ _⟩
    | true =>
      by_cases hk0 : kk < 0
      · go_wp2
        go_ret
        exact ⟨rfl, Below.refl _ _⟩
      · by_cases hkn : 0 < kk
        · go_wp2
          go_ret
          exact ⟨rfl, Below.refl _ _⟩
        · obtain hK : kk = 0 := by omega
          rw [hK]
          clear hK hk0 hkn
          go_wp2_with fail
          refine (cloneZ_nil w).mono ?_
          rintro e w' ⟨rfl, rfl⟩
          go_wp2_with fail
          refine (canon_nil w).mono ?_
          rintro e w' ⟨rfl, rfl⟩
          go_wp2_with fail
          refine (usage_any _ _ _ _ w).mono ?_
          rintro e w3 ⟨rfl, hb3⟩
          have HB3 : Hid (Below w.heap.size w w3) := hb3
          clear hb3
          go_wp2_with fail
          have hbox4 := boxAt_new w3 r s none 0 0 i1 i2 i3 i4
          have hbel4 := below_new w3 (.cells #[.string r, .string s, .slice none 0 0, .int .i64 i1, .int .i64 i2, .int .i64 i3, .int .i64 i4] 34)
          obtain ⟨W4, hW4⟩ : ∃ W4, W4 = w3.alloc (.cells #[.string r, .string s, .slice none 0 0, .int .i64 i1, .int .i64 i2, .int .i64 i3, .int .i64 i4] 34) := ⟨_, rfl⟩
          rw [← hW4] at hbox4 hbel4 ⊢
          have HX4 : Hid (BoxAt W4 w3.heap.size r s none 0 0) := hbox4
          have HB4 : Hid (Below w.heap.size w W4) := below_then HB3.out hbel4
          clear hbox4 hbel4 hW4 HB3
          refine (canon_nil W4).mono ?_
          rintro e w' ⟨rfl, rfl⟩
          go_wp2_with fail
          have hbox6 := boxAt_new W4 r s none 0 0 0 0 0 0
          have hbel6 := below_new W4 (.cells #[.string r, .string s, .slice none 0 0, .int .i64 0, .int .i64 0, .int .i64 0, .int .i64 0] 34)
          obtain ⟨W6, hW6⟩ : ∃ W6, W6 = W4.alloc (.cells #[.string r, .string s, .slice none 0 0, .int .i64 0, .int .i64 0, .int .i64 0, .int .i64 0] 34) := ⟨_, rfl⟩
          rw [← hW6] at hbox6 hbel6 ⊢
          have HY6 : Hid (BoxAt W6 W4.heap.size r s none 0 0) := hbox6
          have HX6 : Hid (BoxAt W6 w3.heap.size r s none 0 0) := HX4.out.below hbel6
          have HB6 : Hid (Below w.heap.size w W6) := below_then HB4.out hbel6
          clear hbox6 hbel6 hW6 HX4 HB4
          refine (ends_zero w3.heap.size r s none 0 W6 HX6.out.1 HX6.out.2.1 HX6.out.2.2.1 HX6.out.2.2.2).mono ?_
          rintro e w7 ⟨gw, cw, rfl, _, hgw, hpw, hb7⟩
          have HW7 : Hid (gw < w7.heap.size ∧ Pairs w7 gw 0 1 (ahead r (fun _ => r)) (ahead s (fun _ => s))) := ⟨hgw, hpw⟩
          have HY7 : Hid (BoxAt w7 W4.heap.size r s none 0 0) := HY6.out.below hb7
          have HB7 : Hid (Below w.heap.size w w7) := below_then HB6.out hb7
          clear hgw hpw hb7 HX6 HB6 HY6
          go_wp2_with fail
          refine (ends_zero W4.heap.size r s none 0 w7 HY7.out.1 HY7.out.2.1 HY7.out.2.2.1 HY7.out.2.2.2).mono ?_
          rintro e w8 ⟨gh, ch, rfl, _, hgh, hph, hb8⟩
          have HH8 : Hid (gh < w8.heap.size ∧ Pairs w8 gh 0 1 (ahead r (fun _ => r)) (ahead s (fun _ => s))) := ⟨hgh, hph⟩
          have HW8 : Hid (gw < w8.heap.size ∧ Pairs w8 gw 0 1 (ahead r (fun _ => r)) (ahead s (fun _ => s))) := ⟨Nat.lt_of_lt_of_le HW7.out.1 hb8.size, HW7.out.2.below hb8 HW7.out.1⟩
          have HB8 : Hid (Below w.heap.size w w8) := below_then HB7.out hb8
          clear hgh hph hb8 HW7 HY7 HB7
          obtain ⟨c0, c1⟩ := HH8.out.2 0 (by omega)
          have c0' : w8.cell? ⟨gh, 0, none⟩ = some (.string r) := c0
          have c1' : w8.cell? ⟨gh, 1, none⟩ = some (.string s) := c1
          clear c0 c1
          go_wp2_with fail
          refine (same_eq r s w8).mono ?_
          rintro e w9 ⟨rfl, hw9⟩
          have hb9 : Below w8.heap.size w8 w9 := by rw [← hw9]; exact below_new _ _
          have HH9 : Hid (gh < w9.heap.size ∧ Pairs w9 gh 0 1 (ahead r (fun _ => r)) (ahead s (fun _ => s))) := ⟨Nat.lt_of_lt_of_le HH8.out.1 hb9.size, HH8.out.2.below hb9 HH8.out.1⟩
          have HW9 : Hid (gw < w9.heap.size ∧ Pairs w9 gw 0 1 (ahead r (fun _ => r)) (ahead s (fun _ => s))) := ⟨Nat.lt_of_lt_of_le HW8.out.1 hb9.size, HW8.out.2.below hb9 HW8.out.1⟩
          have HB9 : Hid (Below w.heap.size w w9) := below_then HB8.out hb9
          clear hb9 hw9 c0' c1' HH8 HW8 HB8
          go_wp2_with fail
          go_loopw [21] (fun i wr => ∃ j q : Nat, j ≤ 1 ∧ i = .int .i64 j ∧ wr = w9.drewN q) (fun i _ => 1 - (intOf i).toNat)
          case atStart => exact ⟨0, 0, Nat.zero_le _, rfl, rfl⟩
          case round =>
            obtain ⟨j, q, hj, rfl, hq⟩ := hrel
            have HQ : Hid (wr = w9.drewN q) := hq
            clear hq
            by_cases hlt : j < 1
            · obtain ⟨a1, a2⟩ := HW9.out.2 j hlt
              obtain ⟨b1, b2⟩ := HH9.out.2 j hlt
              rw [Nat.zero_add] at a1 a2 b1 b2
              obtain ⟨y1, hy1⟩ : ∃ y1, y1 = ahead r (fun _ => r) j := ⟨_, rfl⟩
              obtain ⟨y2, hy2⟩ : ∃ y2, y2 = ahead s (fun _ => s) j := ⟨_, rfl⟩
              rw [← hy1] at a1 b1
              rw [← hy2] at a2 b2
              have a1' : wr.cell? ⟨gw, j * 2, none⟩ = some (.string y1) := by rw [HQ.out]; exact a1
              have a2' : wr.cell? ⟨gw, j * 2 + 1, none⟩ = some (.string y2) := by rw [HQ.out]; exact a2
              have b1' : wr.cell? ⟨gh, j * 2, none⟩ = some (.string y1) := by rw [HQ.out]; exact b1
              have b2' : wr.cell? ⟨gh, j * 2 + 1, none⟩ = some (.string y2) := by rw [HQ.out]; exact b2
              clear a1 a2 b1 b2 hy1 hy2
              have hj0 : (0 : Int) ≤ (j : Int) := by omega
              have hj1 : (j : Int) < 1 := by omega
              have HJ : Hid (j < 1) := hlt
              have e1 : (y1.toList == y1.toList) = true := by simp
              have e2 : (y2.toList == y2.toList) = true := by simp
              clear hlt hj
              go_wp2
              go_quiet (fail)
              go_wp2
              go_roundw
              case rel => exact ⟨j + 1, q + _, by have := HJ.out; omega, by go_num, by rw [HQ.out, World.drewN_drewN]⟩
              case measure => have := HJ.out; simp [intOf]; omega
            · have hj1 : (1 : Int) ≤ (j : Int) := by omega
              have hbq : Below w9.heap.size w9 wr := by rw [HQ.out]; exact ⟨rfl, rfl, rfl, Nat.le_refl _, fun _ _ => rfl⟩
              have HBQ : Hid (Below w9.heap.size w9 wr) := hbq
              clear hbq HQ HH9 hlt hj
              go_wp2_with fail
              refine wp_loop_rounds 1 ?_
              rw [rounds_succ]
              go_wp2
              go_ret
              exact ⟨rfl, below_then HB9.out HBQ.out⟩
end Go.Proofs.Qxb6616063a
