/-
  The walks of FnRecallAppendToChains (4), FnAppendBallotIsInjective (5), FnRecallAppendToAgreesWithAppendBallot (3).
-/
import Derived.Test.Qxb6615949aPrefix
import Derived.Test.Qxb6615949aAppend
import Derived.Test.Qxb6615949aEqual
namespace Go.Proofs.Qxb6615949a
open Go.RowKit Go.WideShapes

theorem Below.drawn {B : Nat} {a w : World} (h : Below B a w) (n : Nat) : Below B a (w.drewN n) := h.trans ⟨rfl, rfl, rfl, Nat.le_refl _, fun _ _ => rfl⟩
theorem two_range {l : List Int} (h : ∀ x ∈ l, 0 ≤ x ∧ x ≤ 255) (f t : Nat) : ∀ x ∈ l ++ uv f ++ uv t, 0 ≤ x ∧ x ≤ 255 := by
  intro x hx
  rcases List.mem_append.1 hx with hx | hx
  · rcases List.mem_append.1 hx with hx | hx
    · exact h x hx
    · exact uv_range f x hx
  · exact uv_range t x hx
theorem u64_nat {a : Int} (h : (Lit.int .u64 a).wf = true) : ∃ f : Nat, a = (f : Int) ∧ f < 18446744073709551616 := by
  simp [Lit.wf, IntKind.min, IntKind.max, IntKind.signed, IntKind.bits] at h
  exact ⟨a.toNat, by omega, by omega⟩

theorem chains_big (a : Option Addr) (n c : Nat) (x1 x2 x3 x4 : Int) (w : World) (hn : ¬ n ≤ 1048576) :
    Calls Try.prog 4 #[.slice a n c, .int .u64 x1, .int .u64 x2, .int .u64 x3, .int .u64 x4] w fun e w' => e = .returned (.bool true) ∧ w' = w := by
  have hh : (1048576 : Int) < (n : Int) := by omega
  go_enter Try.func4, Try.ntmps4
  go_wp2
  go_ret
  exact ⟨rfl, rfl⟩

set_option maxHeartbeats 2000000 in
set_option maxRecDepth 100000 in
theorem chains_in (a : Option Addr) (n c f1 t1 f2 t2 : Nat) (l : List Int) (w : World) (hn : n ≤ 1048576) (hs : Seg w a n l) (ha : a = none → n = 0 ∧ c = 0)
    (hf1 : f1 < 18446744073709551616) (ht1 : t1 < 18446744073709551616) (hf2 : f2 < 18446744073709551616) (ht2 : t2 < 18446744073709551616) :
    Calls Try.prog 4 #[.slice a n c, .int .u64 f1, .int .u64 t1, .int .u64 f2, .int .u64 t2] w fun e w' => e = .returned (.bool true) ∧ Below w.heap.size w w' := by
  have hh : (n : Int) ≤ 1048576 := by omega
  have l1 := uv_length hf1
  have l2 := uv_length ht1
  have l3 := uv_length hf2
  have l4 := uv_length ht2
  have HF : Hid (f1 < 18446744073709551616 ∧ t1 < 18446744073709551616 ∧ f2 < 18446744073709551616 ∧ t2 < 18446744073709551616) := ⟨hf1, ht1, hf2, ht2⟩
  have HS : Hid (Seg w a n l) := hs
  have HA : Hid (a = none → n = 0 ∧ c = 0) := ha
  clear hf1 ht1 hf2 ht2 hs ha
  go_enter Try.func4, Try.ntmps4
  go_wp2_with (go_at_call 13; go_in)
  refine (clone_any a n c l w HS.out HA.out (by omega)).mono ?_
  rintro e w1 ⟨a1, rfl, _, _, hown1, hb1⟩
  have HO1 : Hid (w1.ownsRow w.heap.size 5 1 (.slice a1 n n) n (byteVals l)) := hown1
  have HB1 : Hid (Below w.heap.size w w1) := hb1
  clear hown1 hb1
  go_wp2_with fail
  refine (recall_any w.heap.size n f1 t1 HF.out.1 HF.out.2.1 _ l w1 HO1.out HB1.out.size (by omega)).mono ?_
  rintro e w2 ⟨g, cap, rfl, hown2, hb2⟩
  obtain ⟨N, hN⟩ : ∃ N, N = n + (uv f1).length + (uv t1).length := ⟨_, rfl⟩
  rw [← hN] at hown2 ⊢
  have hNb : N ≤ 1048600 := by omega
  have HO2 : Hid (Seg w2 (some ⟨g, 0, none⟩) N (l ++ uv f1 ++ uv t1)) := seg_of_own hown2 (two_range HS.out.2.1 f1 t1)
  have HB2 : Hid (Below w.heap.size w w2) := HB1.out.trans hb2
  clear hown2 hb2 hN
  go_wp2_with fail
  refine (clone_some _ N cap _ w2 HO2.out hNb).mono ?_
  rintro e w3 ⟨rfl, hown3, hb3⟩
  have HO3 : Hid (Seg w3 (some ⟨w2.heap.size, 0, none⟩) N (l ++ uv f1 ++ uv t1)) := seg_of_own hown3 (two_range HS.out.2.1 f1 t1)
  have HP3 : Hid (Seg w3 (some ⟨g, 0, none⟩) N (l ++ uv f1 ++ uv t1)) := HO2.out.below hb3
  have HB3 : Hid (Below w.heap.size w w3) := HB2.out.trans (hb3.mono HB2.out.size)
  clear hown3 hb3
  go_wp2_with fail
  refine (clone_some _ N cap _ w3 HP3.out hNb).mono ?_
  rintro e w4 ⟨rfl, hown4, hb4⟩
  have HO4 : Hid (w4.ownsRow w3.heap.size 5 1 (.slice (some ⟨w3.heap.size, 0, none⟩) N N) N (byteVals (l ++ uv f1 ++ uv t1))) := hown4
  have HB4 : Hid (Below w3.heap.size w3 w4) := hb4
  clear hown4 hb4
  go_wp2_with fail
  refine (recall_any w3.heap.size N f2 t2 HF.out.2.2.1 HF.out.2.2.2 _ (l ++ uv f1 ++ uv t1) w4 HO4.out HB4.out.size (by omega)).mono ?_
  rintro e w5 ⟨g2, cap2, rfl, hown5, hb5⟩
  obtain ⟨M, hM⟩ : ∃ M, M = N + (uv f2).length + (uv t2).length := ⟨_, rfl⟩
  rw [← hM] at hown5 ⊢
  have hMb : M ≤ 2000000 := by omega
  have HO5 : Hid (Seg w5 (some ⟨g2, 0, none⟩) M (l ++ uv f1 ++ uv t1 ++ uv f2 ++ uv t2)) := seg_of_own hown5 (two_range (two_range HS.out.2.1 f1 t1) f2 t2)
  have HB5 : Hid (Below w3.heap.size w3 w5) := HB4.out.trans hb5
  have HP5 : Hid (Seg w5 (some ⟨w2.heap.size, 0, none⟩) N (l ++ uv f1 ++ uv t1)) := HO3.out.below HB5.out
  have HW5 : Hid (Below w.heap.size w w5) := HB3.out.trans (HB5.out.mono HB3.out.size)
  clear hown5 hb5 hM
  go_wp2_with fail
  refine (prefix_any _ N _ n c f1 t1 a l w5 (by omega) HF.out.1 HF.out.2.1 HP5.out (HS.out.below HW5.out)).mono ?_
  rintro e w6 ⟨rfl, q, rfl⟩
  go_wp2_with fail
  refine (prefix_any g2 M _ N _ f2 t2 _ (l ++ uv f1 ++ uv t1) (w5.drewN q) (by omega) HF.out.2.2.1 HF.out.2.2.2 HO5.out HP5.out).mono ?_
  rintro e w7 ⟨rfl, q2, rfl⟩
  go_wp2
  go_ret
  exact ⟨rfl, Below.drawn HW5.out _⟩
end Go.Proofs.Qxb6615949a
