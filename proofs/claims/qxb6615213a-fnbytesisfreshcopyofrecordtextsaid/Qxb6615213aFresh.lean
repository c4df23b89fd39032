/-
  The walk of FnBytesIsFreshCopyOfRecordText (5).
-/
import Derived.Test.Qxb6615213aRecord
import Derived.Test.Qxb6615213aEqual
namespace Go.Proofs.Qxb6615213a
open Go.RowKit Go.WideShapes

theorem fresh_big (line : Int) (a : Option Addr) (n c : Nat) (w : World) (hn : ¬ n ≤ 1048576) :
    Calls Try.prog 5 #[.int .i64 line, .slice a n c] w fun e w' => e = .returned (.bool true) ∧ w' = w := by
  have hh : (1048576 : Int) < (n : Int) := by omega
  go_enter Try.func5, Try.ntmps5
  go_wp2
  go_ret
  exact ⟨rfl, rfl⟩

/-- The record lies at the head of block g. -/
def RecAt (w : World) (g : Nat) (line : Int) (a : Option Addr) (n c : Nat) : Prop :=
  w.cell? ⟨g, 0, none⟩ = some (.int .i64 line) ∧ w.cell? ⟨g, 1, none⟩ = some (.pointer none) ∧ w.cell? ⟨g, 2, none⟩ = some (.slice a n c)
theorem RecAt.below {w w' : World} {B g : Nat} {line : Int} {a : Option Addr} {n c : Nat} (h : RecAt w g line a n c) (hb : Below B w w') (hg : g < B) : RecAt w' g line a n c :=
  ⟨(hb.cell (p := ⟨g, 0, none⟩) hg).trans h.1, (hb.cell (p := ⟨g, 1, none⟩) hg).trans h.2.1, (hb.cell (p := ⟨g, 2, none⟩) hg).trans h.2.2⟩
theorem recAt_new (w : World) (line : Int) (a : Option Addr) (n c : Nat) : RecAt (w.alloc (.cells #[.int .i64 line, .pointer none, .slice a n c] 34)) w.heap.size line a n c :=
  ⟨World.cell?_alloc_mark w _ 34 (0, 0) 0, World.cell?_alloc_mark w _ 34 (0, 0) 1, World.cell?_alloc_mark w _ 34 (0, 0) 2⟩
theorem Below.drawn {B : Nat} {a w : World} (h : Below B a w) (n : Nat) : Below B a (w.drewN n) := h.trans ⟨rfl, rfl, rfl, Nat.le_refl _, fun _ _ => rfl⟩

set_option maxHeartbeats 1000000 in
theorem fresh_nil (line : Int) (w : World) :
    Calls Try.prog 5 #[.int .i64 line, .slice none 0 0] w fun e w' => e = .returned (.bool true) ∧ Below w.heap.size w w' := by
  go_enter Try.func5, Try.ntmps5
  go_wp2_with (go_at_call 14; go_in)
  refine (clone_nil _).mono ?_
  rintro e w1 ⟨rfl, hw⟩
  obtain rfl := hw.symm
  go_wp2_with fail
  refine (clone_nil _).mono ?_
  rintro e w2 ⟨rfl, hw⟩
  obtain rfl := hw.symm
  go_wp2_with fail
  refine (newRecord_any _ _ _ _ _).mono ?_
  rintro e w3 ⟨rfl, hb3⟩
  have HB3 : Hid (Below w.heap.size w w3) := hb3
  clear hb3
  go_wp2_with fail
  refine (bytes_nil _ _).mono ?_
  rintro e w5 ⟨rfl, hb5⟩
  have HR5 := (recAt_new w3 line none 0 0).below hb5 (by simp)
  have HB5 : Hid (Below w.heap.size w w5) := (HB3.out.alloc HB3.out.size _).trans (hb5.mono (Nat.le_trans HB3.out.size (by simp)))
  obtain ⟨r0, r1, r2⟩ := HR5
  clear hb5
  go_wp2_with fail
  refine (same_nil _).mono ?_
  rintro e w6 ⟨rfl, q, rfl⟩
  go_wp2_with fail
  refine wp_loop_rounds 1 ?_
  rw [rounds_succ]
  go_wp2_with fail
  refine (bytes_nil _ _).mono ?_
  rintro e w7 ⟨rfl, hb7⟩
  have HB7 : Hid (Below w.heap.size w w7) := (Below.drawn HB5.out q).trans (hb7.mono HB5.out.size)
  clear hb7
  go_wp2_with fail
  refine (same_nil _).mono ?_
  rintro e w8 ⟨rfl, q2, rfl⟩
  go_wp2_with fail
  refine (same_nil _).mono ?_
  rintro e w9 ⟨rfl, q3, rfl⟩
  go_wp2
  go_ret
  exact ⟨rfl, Below.drawn HB7.out _⟩

/-- A row of bytes, whatever they are. -/
def Bytes (xs : List Value) : Prop := ∀ j, j < xs.length → ∃ v : Int, xs[j]? = some (.int .u8 v)
theorem bytes_vals (l : List Int) : Bytes (byteVals l) := by
  intro j hj
  rw [byteVals_length] at hj
  exact ⟨l[j], by unfold byteVals; rw [List.getElem?_map, List.getElem?_eq_getElem hj]; rfl⟩
theorem Bytes.set {xs : List Value} (h : Bytes xs) (k : Nat) (v : Int) : Bytes (xs.set k (.int .u8 v)) := by
  intro j hj
  rw [List.length_set] at hj
  rw [List.getElem?_set]
  by_cases hk : k = j
  · subst hk
    rw [if_pos rfl, if_pos hj]
    exact ⟨v, rfl⟩
  · rw [if_neg hk]
    exact h j hj

set_option maxHeartbeats 2000000 in
theorem fresh_some (line : Int) (x : Addr) (n c : Nat) (l : List Int) (w : World) (hn : n ≤ 1048576) (hseg : Seg w (some x) n l) :
    Calls Try.prog 5 #[.int .i64 line, .slice (some x) n c] w fun e w' => e = .returned (.bool true) ∧ Below w.heap.size w w' := by
  have hh : (n : Int) ≤ 1048576 := by omega
  have HS : Hid (Seg w (some x) n l) := hseg
  clear hseg
  have hln : (l == l) = true := by simp
  go_enter Try.func5, Try.ntmps5
  go_wp2_with (go_at_call 14; go_in)
  refine (clone_some x n c l w HS.out (by omega)).mono ?_
  rintro e w1 ⟨rfl, hown1, hb1⟩
  have HS1 : Hid (Seg w1 (some ⟨w.heap.size, 0, none⟩) n l) := seg_of_own hown1 HS.out.2.1
  have HB1 : Hid (Below w.heap.size w w1) := hb1
  clear hown1 hb1
  go_wp2_with fail
  refine (clone_some _ n n l w1 HS1.out (by omega)).mono ?_
  rintro e w2 ⟨rfl, hown2, hb2⟩
  have HS2 : Hid (Seg w2 (some ⟨w1.heap.size, 0, none⟩) n l) := seg_of_own hown2 HS.out.2.1
  have HB2 : Hid (Below w1.heap.size w1 w2) := hb2
  clear hown2 hb2
  go_wp2_with fail
  refine (newRecord_any _ _ _ _ w2).mono ?_
  rintro e w3 ⟨rfl, hb3⟩
  have HB3 : Hid (Below w2.heap.size w2 w3) := hb3
  clear hb3
  go_wp2_with fail
  have hb4 : Below w3.heap.size w3 (w3.alloc (.cells #[.int .i64 line, .pointer none, .slice (some ⟨w.heap.size, 0, none⟩) n n] 34)) := (Below.refl _ _).alloc (Nat.le_refl _) _
  have hr4 := recAt_new w3 line (some ⟨w.heap.size, 0, none⟩) n n
  have hz4 : (w3.alloc (.cells #[.int .i64 line, .pointer none, .slice (some ⟨w.heap.size, 0, none⟩) n n] 34)).heap.size = w3.heap.size + 1 := by simp
  obtain ⟨W4, hW4⟩ : ∃ W4, W4 = w3.alloc (.cells #[.int .i64 line, .pointer none, .slice (some ⟨w.heap.size, 0, none⟩) n n] 34) := ⟨_, rfl⟩
  rw [← hW4] at hb4 hr4 hz4 ⊢
  clear hW4
  have HT4 : Hid (Seg W4 (some ⟨w.heap.size, 0, none⟩) n l) := ((HS1.out.below HB2.out).below HB3.out).below hb4
  have HW4 : Hid (Seg W4 (some ⟨w1.heap.size, 0, none⟩) n l) := (HS2.out.below HB3.out).below hb4
  have HB4 : Hid (Below w.heap.size w W4) := HB1.out.trans ((HB2.out.mono HB1.out.size).trans ((HB3.out.mono (Nat.le_trans HB1.out.size HB2.out.size)).trans (hb4.mono (Nat.le_trans HB1.out.size (Nat.le_trans HB2.out.size HB3.out.size)))))
  have HR4 : Hid (RecAt W4 w3.heap.size line (some ⟨w.heap.size, 0, none⟩) n n) := hr4
  have HZ4 : Hid (W4.heap.size = w3.heap.size + 1) := hz4
  clear hb4 hr4 hz4 HS1 HS2 HB1 HB2 HB3
  refine (bytes_some _ _ n n l W4 HT4.out (by omega)).mono ?_
  rintro e w5 ⟨g, cap, rfl, hown5, hb5⟩
  have HO5 : Hid (w5.ownsRow W4.heap.size 5 1 (.slice (some ⟨g, 0, none⟩) n cap) n (byteVals l)) := hown5
  have HB5 : Hid (Below W4.heap.size W4 w5) := hb5
  clear hown5 hb5
  go_wp2_with fail
  refine (same_some _ _ n n cap n l l w5 (by omega) (seg_of_own HO5.out HS.out.2.1) (HW4.out.below HB5.out)).mono ?_
  rintro e w6 ⟨rfl, q, rfl⟩
  go_wp2_with fail
  go_loopw [8] (fun i wr => ∃ k : Nat, k ≤ n ∧ i = .int .i64 k ∧ (∃ xs, Bytes xs ∧ wr.ownsRow W4.heap.size 5 1 (.slice (some ⟨g, 0, none⟩) n cap) n xs) ∧ Below W4.heap.size W4 wr) (fun i _ => n - (intOf i).toNat)
  case atStart => exact ⟨0, Nat.zero_le _, rfl, ⟨_, bytes_vals l, HO5.out⟩, Below.drawn HB5.out q⟩
  case round =>
    obtain ⟨k, hk, rfl, ⟨xs, hbx, hown⟩, hbr⟩ := hrel
    by_cases hlt : k < n
    · obtain ⟨v, hv⟩ := hbx k (by have := hown.1; omega)
      have hck : wr.cell? ⟨g, k, none⟩ = some (.int .u8 v) := by rw [hown.cellAt k (by omega)]; exact hv
      have hfk : wr.frozen? ⟨g, k, none⟩ = false := hown.frozenAt k
      have hgB : W4.heap.size ≤ g := (hown.lt g rfl).1
      have HN : Hid (∀ u : Int, (wr.setCell ⟨g, k, none⟩ (.int .u8 u)).ownsRow W4.heap.size 5 1 (.slice (some ⟨g, 0, none⟩) n cap) n (xs.set k (.int .u8 u))) := fun u => (hown.stored k (.int .u8 u)).1
      have HBX : Hid (Bytes xs) := hbx
      clear hbx hown hv
      go_wp2
      go_roundw
      case rel => exact ⟨k + 1, by omega, by go_num, ⟨_, HBX.out.set k _, HN.out _⟩, hbr.setCell hgB _⟩
      case measure => simp [intOf]; omega
    · have HBR : Hid (Below W4.heap.size W4 wr) := hbr
      obtain ⟨r0, r1, r2⟩ := HR4.out.below hbr (by rw [HZ4.out]; omega)
      clear hbr hbx hown
      go_wp2_with fail
      refine (bytes_some _ _ n n l wr (HT4.out.below HBR.out) (by omega)).mono ?_
      rintro e w7 ⟨g2, cap2, rfl, hown7, hb7⟩
      have HO7 : Hid (w7.ownsRow wr.heap.size 5 1 (.slice (some ⟨g2, 0, none⟩) n cap2) n (byteVals l)) := hown7
      have HB7 : Hid (Below wr.heap.size wr w7) := hb7
      clear hown7 hb7
      go_wp2_with fail
      refine (same_some _ _ n n cap2 n l l w7 (by omega) (seg_of_own HO7.out HS.out.2.1) ((HW4.out.below HBR.out).below HB7.out)).mono ?_
      rintro e w8 ⟨rfl, q2, rfl⟩
      go_wp2_with fail
      refine (same_some _ _ n n n n l l _ (by omega) ((HT4.out.below HBR.out).below (Below.drawn HB7.out q2)) ((HW4.out.below HBR.out).below (Below.drawn HB7.out q2))).mono ?_
      rintro e w9 ⟨rfl, q3, rfl⟩
      go_wp2
      go_ret
      exact ⟨rfl, Below.drawn (HB4.out.trans ((HBR.out.mono HB4.out.size).trans (HB7.out.mono (Nat.le_trans HB4.out.size HBR.out.size)))) _⟩
end Go.Proofs.Qxb6615213a
