/-
  The walks of FnAppendBallotIsInjective (5) and FnRecallAppendToAgreesWithAppendBallot (3).
-/
import Derived.Test.Qxb6615949aLaws
namespace Go.Proofs.Qxb6615949a
open Go.RowKit Go.WideShapes

/-- No varint is the beginning of another: what is read back is what was written. -/
theorem uv_inj : ∀ (k a c : Nat) (X Y : List Int), a ≤ k → uv a ++ X = uv c ++ Y → a = c ∧ X = Y
  | k, a, c, X, Y, hk, h => by
    by_cases ha : a < 128
    · by_cases hc : c < 128
      · rw [uv_small ha, uv_small hc] at h
        simp at h
        exact ⟨by omega, h.2⟩
      · rw [uv_small ha, uv_big (by omega)] at h
        simp at h
        omega
    · by_cases hc : c < 128
      · rw [uv_small hc, uv_big (by omega)] at h
        simp at h
        omega
      · rw [uv_big (x := a) (by omega), uv_big (x := c) (by omega)] at h
        simp only [List.cons_append, List.cons.injEq] at h
        match k, hk with
        | 0, hk => omega
        | k + 1, hk =>
          obtain ⟨h1, h2⟩ := uv_inj k (a / 128) (c / 128) X Y (by omega) h.2
          exact ⟨by omega, h2⟩
theorem two_inj {l : List Int} {a b c d : Nat} (h : l ++ uv a ++ uv b = l ++ uv c ++ uv d) : a = c ∧ b = d := by
  rw [List.append_assoc, List.append_assoc] at h
  have h1 := List.append_cancel_left h
  obtain ⟨h2, h3⟩ := uv_inj a a c _ _ (Nat.le_refl _) h1
  have h4 : uv b ++ [] = uv d ++ [] := by rw [h3]
  exact ⟨h2, (uv_inj b b d _ _ (Nat.le_refl _) h4).1⟩
/-- uint64(d) of an int. -/
theorem u64_of_i64 (d : Int) : ∃ t : Nat, IntKind.u64.wrap d = (t : Int) ∧ t < 18446744073709551616 := by
  refine ⟨(IntKind.u64.wrap d).toNat, ?_, ?_⟩ <;> rw [IntKind.wrap_u64] <;> omega
theorem u64_inj {d e : Int} (hd : (Lit.int .i64 d).wf = true) (he : (Lit.int .i64 e).wf = true) (h : IntKind.u64.wrap d = IntKind.u64.wrap e) : d = e := by
  simp [Lit.wf, IntKind.min, IntKind.max, IntKind.signed, IntKind.bits] at hd he
  rw [IntKind.wrap_u64, IntKind.wrap_u64] at h
  omega

theorem inj_big (a : Option Addr) (n c : Nat) (x1 x2 x3 x4 : Int) (w : World) (hn : ¬ n ≤ 1048576) :
    Calls Try.prog 5 #[.slice a n c, .int .u64 x1, .int .i64 x2, .int .u64 x3, .int .i64 x4] w fun e w' => e = .returned (.bool true) ∧ w' = w := by
  have hh : (1048576 : Int) < (n : Int) := by omega
  go_enter Try.func5, Try.ntmps5
  go_wp2
  go_ret
  exact ⟨rfl, rfl⟩

theorem agrees_big (a : Option Addr) (n c : Nat) (x1 x2 : Int) (w : World) (hn : ¬ n ≤ 1048576) :
    Calls Try.prog 3 #[.slice a n c, .int .u64 x1, .int .i64 x2] w fun e w' => e = .returned (.bool true) ∧ w' = w := by
  have hh : (1048576 : Int) < (n : Int) := by omega
  go_enter Try.func3, Try.ntmps3
  go_wp2
  go_ret
  exact ⟨rfl, rfl⟩

set_option maxHeartbeats 2000000 in
set_option maxRecDepth 100000 in
theorem agrees_in (a : Option Addr) (n c f t : Nat) (d : Int) (hd : IntKind.u64.wrap d = (t : Int)) (l : List Int) (w : World) (hn : n ≤ 1048576) (hs : Seg w a n l) (ha : a = none → n = 0 ∧ c = 0)
    (hf : f < 18446744073709551616) (ht : t < 18446744073709551616) :
    Calls Try.prog 3 #[.slice a n c, .int .u64 f, .int .i64 d] w fun e w' => e = .returned (.bool true) ∧ Below w.heap.size w w' := by
  have hh : (n : Int) ≤ 1048576 := by omega
  have l1 := uv_length hf
  have l2 := uv_length ht
  have HF : Hid (f < 18446744073709551616 ∧ t < 18446744073709551616 ∧ IntKind.u64.wrap d = (t : Int)) := ⟨hf, ht, hd⟩
  have HS : Hid (Seg w a n l) := hs
  have HA : Hid (a = none → n = 0 ∧ c = 0) := ha
  clear hf ht hs ha
  go_enter Try.func3, Try.ntmps3
  go_wp2_with (go_at_call 7; go_in)
  refine (clone_any a n c l w HS.out HA.out (by omega)).mono ?_
  rintro e w1 ⟨a1, rfl, _, _, hown1, hb1⟩
  have HO1 : Hid (w1.ownsRow w.heap.size 5 1 (.slice a1 n n) n (byteVals l)) := hown1
  have HB1 : Hid (Below w.heap.size w w1) := hb1
  clear hown1 hb1
  go_wp2_with fail
  refine (recall_any w.heap.size n f t HF.out.1 HF.out.2.1 _ l w1 HO1.out HB1.out.size (by omega)).mono ?_
  rintro e w2 ⟨g, cap, rfl, hown2, hb2⟩
  obtain ⟨N, hN⟩ : ∃ N, N = n + (uv f).length + (uv t).length := ⟨_, rfl⟩
  rw [← hN] at hown2 ⊢
  have hNb : N ≤ 1048600 := by omega
  have HO2 : Hid (Seg w2 (some ⟨g, 0, none⟩) N (l ++ uv f ++ uv t)) := seg_of_own hown2 (two_range HS.out.2.1 f t)
  have HB2 : Hid (Below w.heap.size w w2) := HB1.out.trans hb2
  have HN : Hid (N = n + (uv f).length + (uv t).length) := hN
  clear hown2 hb2 hN
  go_wp2_with fail
  refine (clone_any a n c l w2 (HS.out.below HB2.out) HA.out (by omega)).mono ?_
  rintro e w3 ⟨a3, rfl, _, _, hown3, hb3⟩
  have HO3 : Hid (w3.ownsRow w2.heap.size 5 1 (.slice a3 n n) n (byteVals l)) := hown3
  have HB3 : Hid (Below w2.heap.size w2 w3) := hb3
  clear hown3 hb3
  go_wp2_with fail
  refine (ballot_any w2.heap.size n f t d HF.out.2.2 HF.out.1 HF.out.2.1 _ l w3 HO3.out HB3.out.size (by omega)).mono ?_
  rintro e w4 ⟨g2, cap2, rfl, hown4, hb4⟩
  rw [← HN.out] at hown4 ⊢
  have HO4 : Hid (Seg w4 (some ⟨g2, 0, none⟩) N (l ++ uv f ++ uv t)) := seg_of_own hown4 (two_range HS.out.2.1 f t)
  have HB4 : Hid (Below w2.heap.size w2 w4) := HB3.out.trans hb4
  have HP4 : Hid (Seg w4 (some ⟨g, 0, none⟩) N (l ++ uv f ++ uv t)) := HO2.out.below HB4.out
  have HW4 : Hid (Below w.heap.size w w4) := HB2.out.trans (HB4.out.mono HB2.out.size)
  clear hown4 hb4
  go_wp2_with fail
  refine (equal_any _ _ N N cap cap2 _ _ w4 hNb HP4.out HO4.out).mono ?_
  rintro e w5 ⟨rfl, q, rfl⟩
  rw [show (l ++ uv f ++ uv t == l ++ uv f ++ uv t) = true from by simp]
  go_wp2_with fail
  refine (prefix_any g N _ n c f t a l (w4.drewN q) (by omega) HF.out.1 HF.out.2.1 HP4.out (HS.out.below (Below.drawn HW4.out q))).mono ?_
  rintro e w6 ⟨rfl, q2, rfl⟩
  go_wp2
  go_ret
  exact ⟨rfl, Below.drawn HW4.out _⟩

set_option maxHeartbeats 2000000 in
set_option maxRecDepth 100000 in
/-- The law's walk; 'same' is decided by the two tests as the Go text makes them. -/
theorem inj_in (a : Option Addr) (n c f1 t1 f2 t2 : Nat) (d1 d2 : Int) (S1 S2 : Bool) (hS1 : ((f1 : Int) == (f2 : Int)) = S1) (hS2 : (d1 == d2) = S2) (hd1 : IntKind.u64.wrap d1 = (t1 : Int)) (hd2 : IntKind.u64.wrap d2 = (t2 : Int)) (l : List Int) (w : World) (hn : n ≤ 1048576) (hs : Seg w a n l) (ha : a = none → n = 0 ∧ c = 0)
    (hf1 : f1 < 18446744073709551616) (ht1 : t1 < 18446744073709551616) (hf2 : f2 < 18446744073709551616) (ht2 : t2 < 18446744073709551616)
    (hsame : (l ++ uv f1 ++ uv t1 == l ++ uv f2 ++ uv t2) = (S1 && S2)) :
    Calls Try.prog 5 #[.slice a n c, .int .u64 f1, .int .i64 d1, .int .u64 f2, .int .i64 d2] w fun e w' => e = .returned (.bool true) ∧ Below w.heap.size w w' := by
  have hh : (n : Int) ≤ 1048576 := by omega
  have l1 := uv_length hf1
  have l2 := uv_length ht1
  have l3 := uv_length hf2
  have l4 := uv_length ht2
  have HF : Hid (f1 < 18446744073709551616 ∧ t1 < 18446744073709551616 ∧ f2 < 18446744073709551616 ∧ t2 < 18446744073709551616) := ⟨hf1, ht1, hf2, ht2⟩
  have HD : Hid (IntKind.u64.wrap d1 = (t1 : Int) ∧ IntKind.u64.wrap d2 = (t2 : Int)) := ⟨hd1, hd2⟩
  have HS : Hid (Seg w a n l) := hs
  have HA : Hid (a = none → n = 0 ∧ c = 0) := ha
  have HE : Hid ((l ++ uv f1 ++ uv t1 == l ++ uv f2 ++ uv t2) = (S1 && S2)) := hsame
  clear hf1 ht1 hf2 ht2 hs ha hsame
  go_enter Try.func5, Try.ntmps5
  go_wp2_with (go_at_call 14; go_in)
  refine (clone_any a n c l w HS.out HA.out (by omega)).mono ?_
  rintro e w1 ⟨a1, rfl, _, _, hown1, hb1⟩
  have HO1 : Hid (w1.ownsRow w.heap.size 5 1 (.slice a1 n n) n (byteVals l)) := hown1
  have HB1 : Hid (Below w.heap.size w w1) := hb1
  clear hown1 hb1
  go_wp2_with fail
  refine (ballot_any w.heap.size n f1 t1 d1 HD.out.1 HF.out.1 HF.out.2.1 _ l w1 HO1.out HB1.out.size (by omega)).mono ?_
  rintro e w2 ⟨g, cap, rfl, hown2, hb2⟩
  obtain ⟨N, hN⟩ : ∃ N, N = n + (uv f1).length + (uv t1).length := ⟨_, rfl⟩
  rw [← hN] at hown2 ⊢
  have hNb : N ≤ 1048600 := by omega
  have HO2 : Hid (Seg w2 (some ⟨g, 0, none⟩) N (l ++ uv f1 ++ uv t1)) := seg_of_own hown2 (two_range HS.out.2.1 f1 t1)
  have HB2 : Hid (Below w.heap.size w w2) := HB1.out.trans hb2
  clear hown2 hb2 hN
  go_wp2_with fail
  refine (clone_any a n c l w2 (HS.out.below HB2.out) HA.out (by omega)).mono ?_
  rintro e w3 ⟨a3, rfl, _, _, hown3, hb3⟩
  have HO3 : Hid (w3.ownsRow w2.heap.size 5 1 (.slice a3 n n) n (byteVals l)) := hown3
  have HB3 : Hid (Below w2.heap.size w2 w3) := hb3
  clear hown3 hb3
  go_wp2_with fail
  refine (ballot_any w2.heap.size n f2 t2 d2 HD.out.2 HF.out.2.2.1 HF.out.2.2.2 _ l w3 HO3.out HB3.out.size (by omega)).mono ?_
  rintro e w4 ⟨g2, cap2, rfl, hown4, hb4⟩
  obtain ⟨M, hM⟩ : ∃ M, M = n + (uv f2).length + (uv t2).length := ⟨_, rfl⟩
  rw [← hM] at hown4 ⊢
  have hMb : M ≤ 1048600 := by omega
  have HO4 : Hid (Seg w4 (some ⟨g2, 0, none⟩) M (l ++ uv f2 ++ uv t2)) := seg_of_own hown4 (two_range HS.out.2.1 f2 t2)
  have HB4 : Hid (Below w2.heap.size w2 w4) := HB3.out.trans hb4
  have HP4 : Hid (Seg w4 (some ⟨g, 0, none⟩) N (l ++ uv f1 ++ uv t1)) := HO2.out.below HB4.out
  have HW4 : Hid (Below w.heap.size w w4) := HB2.out.trans (HB4.out.mono HB2.out.size)
  clear hown4 hb4 hM
  cases S1 with
  | false =>
    go_wp2_with fail
    refine (equal_any _ _ N M cap cap2 _ _ w4 hNb HP4.out HO4.out).mono ?_
    rintro e w5 ⟨rfl, q, rfl⟩
    rw [HE.out]
    go_wp2_with fail
    refine (prefix_any g N _ n c f1 t1 a l (w4.drewN q) (by omega) HF.out.1 HF.out.2.1 HP4.out (HS.out.below (Below.drawn HW4.out q))).mono ?_
    rintro e w6 ⟨rfl, q2, rfl⟩
    go_wp2_with fail
    refine (prefix_any g2 M _ n c f2 t2 a l (w4.drewN (q + q2)) (by omega) HF.out.2.2.1 HF.out.2.2.2 HO4.out (HS.out.below (Below.drawn HW4.out (q + q2)))).mono ?_
    rintro e w7 ⟨rfl, q3, rfl⟩
    go_wp2
    go_ret
    exact ⟨rfl, Below.drawn HW4.out _⟩
  | true =>
    cases S2
    all_goals
      go_wp2_with fail
      refine (equal_any _ _ N M cap cap2 _ _ w4 hNb HP4.out HO4.out).mono ?_
      rintro e w5 ⟨rfl, q, rfl⟩
      rw [HE.out]
      go_wp2_with fail
      refine (prefix_any g N _ n c f1 t1 a l (w4.drewN q) (by omega) HF.out.1 HF.out.2.1 HP4.out (HS.out.below (Below.drawn HW4.out q))).mono ?_
      rintro e w6 ⟨rfl, q2, rfl⟩
      go_wp2_with fail
      refine (prefix_any g2 M _ n c f2 t2 a l (w4.drewN (q + q2)) (by omega) HF.out.2.2.1 HF.out.2.2.2 HO4.out (HS.out.below (Below.drawn HW4.out (q + q2)))).mono ?_
      rintro e w7 ⟨rfl, q3, rfl⟩
      go_wp2
      go_ret
      exact ⟨rfl, Below.drawn HW4.out _⟩
end Go.Proofs.Qxb6615949a
