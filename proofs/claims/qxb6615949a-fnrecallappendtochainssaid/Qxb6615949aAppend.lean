/-
  The walks of ZZRecallAppendTo (8) over Recall.appendTo (21), and of ZZAppendBallot (10) over appendBallot (22).
-/
import Derived.Test.Qxb6615949aUv
namespace Go.Proofs.Qxb6615949a
open Go.RowKit Go.WideShapes

/-- What the two appenders leave. -/
def Two (B n f t : Nat) (l : List Int) (w : World) (e : Ending) (w' : World) : Prop :=
  ∃ g cap, e = .returned (.slice (some ⟨g, 0, none⟩) (n + (uv f).length + (uv t).length) cap) ∧
    w'.ownsRow B 5 1 (.slice (some ⟨g, 0, none⟩) (n + (uv f).length + (uv t).length) cap) (n + (uv f).length + (uv t).length) (byteVals (l ++ uv f ++ uv t)) ∧ Below B w w'

theorem box_at (w : World) (u v : Value) (t : TypeId) : (w.alloc (.cells #[u, v] t)).cell? ⟨w.heap.size, 0, none⟩ = some u ∧ (w.alloc (.cells #[u, v] t)).cell? ⟨w.heap.size, 1, none⟩ = some v :=
  ⟨World.cell?_alloc_mark w _ t (0, 0) 0, World.cell?_alloc_mark w _ t (0, 0) 1⟩
theorem own_ne {w : World} {B n : Nat} {sv : Value} {xs : List Value} (h : w.ownsRow B 5 1 sv n xs) : some w.heap.size ≠ sv.ownBlock := by
  intro e
  have := (h.lt w.heap.size e.symm).2
  omega
theorem below_of_grown {B : Nat} {a w w' : World} {n : Nat} {sv : Value} {xs : List Value} (h : Below B a w) (hown : w.ownsRow B 5 1 sv n xs) (hg : w.grownBy w' sv.ownBlock) (hB : B ≤ w.heap.size) : Below B a w' :=
  h.grown hg hB (fun k hk => (hown.lt k hk).1)

set_option maxHeartbeats 1000000 in
set_option maxRecDepth 100000 in
theorem recall_in (B n f t : Nat) (hf : f < 18446744073709551616) (ht : t < 18446744073709551616) (sv : Value) (l : List Int) (w : World) (hown : w.ownsRow B 5 1 sv n (byteVals l)) (hB : B ≤ w.heap.size) (hlim : n ≤ 1999000) :
    Calls Try.prog 21 #[.agg #[.int .u64 f, .int .u64 t], sv] w fun e w' => Two B n f t l w e w' := by
  have hlf := uv_length hf
  have HF : Hid (f < 18446744073709551616 ∧ t < 18446744073709551616) := ⟨hf, ht⟩
  have HO : Hid (w.ownsRow B 5 1 sv n (byteVals l)) := hown
  clear hf ht hown
  go_enter Try.func21, Try.ntmps21
  go_wp2_with fail
  refine (appendUv B n f HF.out.1 sv l _ (HO.out.alloc _) (by simp; omega) (by omega)).mono ?_
  rintro e w1 ⟨g, cap, rfl, hown1, hg1, hat⟩
  have r1 : w1.cell? ⟨w.heap.size, 1, none⟩ = some (.int .u64 t) := hg1.cell (box_at w (.int .u64 f) (.int .u64 t) 27).2 (own_ne HO.out)
  have HB1 : Hid (Below B w w1) := below_of_grown ((Below.refl _ _).alloc hB _) (HO.out.alloc _) hg1 (by simp; omega)
  have HO1 : Hid (w1.ownsRow B 5 1 (.slice (some ⟨g, 0, none⟩) (n + (uv f).length) cap) (n + (uv f).length) (byteVals (l ++ uv f))) := hown1
  clear hg1 hat hown1
  go_wp2_with fail
  refine (appendUv B (n + (uv f).length) t HF.out.2 _ (l ++ uv f) w1 HO1.out (Nat.le_trans hB HB1.out.size) (by omega)).mono ?_
  rintro e w2 ⟨g2, cap2, rfl, hown2, hg2, _⟩
  have HT : Hid (w2.ownsRow B 5 1 (.slice (some ⟨g2, 0, none⟩) (n + (uv f).length + (uv t).length) cap2) (n + (uv f).length + (uv t).length) (byteVals (l ++ uv f ++ uv t)) ∧ Below B w w2) :=
    ⟨hown2, below_of_grown HB1.out HO1.out hg2 (Nat.le_trans hB HB1.out.size)⟩
  clear hown2 hg2
  go_wp2
  go_ret
  exact ⟨g2, cap2, rfl, HT.out⟩

set_option maxHeartbeats 1000000 in
set_option maxRecDepth 100000 in
theorem recall_any (B n f t : Nat) (hf : f < 18446744073709551616) (ht : t < 18446744073709551616) (sv : Value) (l : List Int) (w : World) (hown : w.ownsRow B 5 1 sv n (byteVals l)) (hB : B ≤ w.heap.size) (hlim : n ≤ 1999000) :
    Calls Try.prog 8 #[.agg #[.int .u64 f, .int .u64 t], sv] w fun e w' => Two B n f t l w e w' := by
  have HF : Hid (f < 18446744073709551616 ∧ t < 18446744073709551616) := ⟨hf, ht⟩
  have HO : Hid (w.ownsRow B 5 1 sv n (byteVals l)) := hown
  clear hf ht hown
  go_enter Try.func8, Try.ntmps8
  go_wp2_with fail
  refine (recall_in B n f t HF.out.1 HF.out.2 sv l _ (HO.out.alloc _) (by simp; omega) hlim).mono ?_
  rintro e w1 ⟨g, cap, rfl, hown1, hb1⟩
  have HT : Hid (w1.ownsRow B 5 1 (.slice (some ⟨g, 0, none⟩) (n + (uv f).length + (uv t).length) cap) (n + (uv f).length + (uv t).length) (byteVals (l ++ uv f ++ uv t)) ∧ Below B w w1) :=
    ⟨hown1, ((Below.refl _ _).alloc hB _).trans hb1⟩
  clear hown1 hb1
  go_wp2
  go_ret
  exact ⟨g, cap, rfl, HT.out⟩

set_option maxHeartbeats 1000000 in
set_option maxRecDepth 100000 in
theorem ballot_in (B n f t : Nat) (d : Int) (hd : IntKind.u64.wrap d = (t : Int)) (hf : f < 18446744073709551616) (ht : t < 18446744073709551616) (sv : Value) (l : List Int) (w : World) (hown : w.ownsRow B 5 1 sv n (byteVals l)) (hB : B ≤ w.heap.size) (hlim : n ≤ 1999000) :
    Calls Try.prog 22 #[sv, .agg #[.int .u64 f, .int .i64 d]] w fun e w' => Two B n f t l w e w' := by
  have hlf := uv_length hf
  have HF : Hid (f < 18446744073709551616 ∧ t < 18446744073709551616) := ⟨hf, ht⟩
  have HO : Hid (w.ownsRow B 5 1 sv n (byteVals l)) := hown
  clear hf ht hown
  go_enter Try.func22, Try.ntmps22
  go_wp2_with fail
  refine (appendUv B n f HF.out.1 sv l _ (HO.out.alloc _) (by simp; omega) (by omega)).mono ?_
  rintro e w1 ⟨g, cap, rfl, hown1, hg1, hat⟩
  have r1 : w1.cell? ⟨w.heap.size, 1, none⟩ = some (.int .i64 d) := hg1.cell (box_at w (.int .u64 f) (.int .i64 d) 31).2 (own_ne HO.out)
  have HB1 : Hid (Below B w w1) := below_of_grown ((Below.refl _ _).alloc hB _) (HO.out.alloc _) hg1 (by simp; omega)
  have HO1 : Hid (w1.ownsRow B 5 1 (.slice (some ⟨g, 0, none⟩) (n + (uv f).length) cap) (n + (uv f).length) (byteVals (l ++ uv f))) := hown1
  clear hg1 hat hown1
  go_wp2_with fail
  refine (appendUv B (n + (uv f).length) t HF.out.2 _ (l ++ uv f) w1 HO1.out (Nat.le_trans hB HB1.out.size) (by omega)).mono ?_
  rintro e w2 ⟨g2, cap2, rfl, hown2, hg2, _⟩
  have HT : Hid (w2.ownsRow B 5 1 (.slice (some ⟨g2, 0, none⟩) (n + (uv f).length + (uv t).length) cap2) (n + (uv f).length + (uv t).length) (byteVals (l ++ uv f ++ uv t)) ∧ Below B w w2) :=
    ⟨hown2, below_of_grown HB1.out HO1.out hg2 (Nat.le_trans hB HB1.out.size)⟩
  clear hown2 hg2
  go_wp2
  go_ret
  exact ⟨g2, cap2, rfl, HT.out⟩

set_option maxHeartbeats 1000000 in
set_option maxRecDepth 100000 in
theorem ballot_any (B n f t : Nat) (d : Int) (hd : IntKind.u64.wrap d = (t : Int)) (hf : f < 18446744073709551616) (ht : t < 18446744073709551616) (sv : Value) (l : List Int) (w : World) (hown : w.ownsRow B 5 1 sv n (byteVals l)) (hB : B ≤ w.heap.size) (hlim : n ≤ 1999000) :
    Calls Try.prog 10 #[sv, .agg #[.int .u64 f, .int .i64 d]] w fun e w' => Two B n f t l w e w' := by
  have HF : Hid (f < 18446744073709551616 ∧ t < 18446744073709551616 ∧ IntKind.u64.wrap d = (t : Int)) := ⟨hf, ht, hd⟩
  have HO : Hid (w.ownsRow B 5 1 sv n (byteVals l)) := hown
  clear hf ht hown hd
  go_enter Try.func10, Try.ntmps10
  go_wp2_with fail
  refine (ballot_in B n f t d HF.out.2.2 HF.out.1 HF.out.2.1 sv l _ (HO.out.alloc _) (by simp; omega) hlim).mono ?_
  rintro e w1 ⟨g, cap, rfl, hown1, hb1⟩
  have HT : Hid (w1.ownsRow B 5 1 (.slice (some ⟨g, 0, none⟩) (n + (uv f).length + (uv t).length) cap) (n + (uv f).length + (uv t).length) (byteVals (l ++ uv f ++ uv t)) ∧ Below B w w1) :=
    ⟨hown1, ((Below.refl _ _).alloc hB _).trans hb1⟩
  clear hown1 hb1
  go_wp2
  go_ret
  exact ⟨g, cap, rfl, HT.out⟩
end Go.Proofs.Qxb6615949a
