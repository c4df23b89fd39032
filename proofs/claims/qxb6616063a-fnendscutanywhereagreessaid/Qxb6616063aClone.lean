/-
  The walks of zzCloneZ (6) and zzToCanon (7).
-/
import Derived.Test.Qxb6616063aFit
import Derived.Lib.SliceRun
import Derived.RegionTactic
import Derived.ChangeAlike
import Derived.Deep.OwnRows
namespace Go.Proofs.Qxb6616063a
open Go.RowKit Go.WideShapes

theorem info40 : (Try.prog.info? 40).map (fun i => (i.zero, i.size, i.bytes)) = some (some (.agg #[.string ⟨#[]⟩, .string ⟨#[]⟩]), 2, 32) := by kernel_rfl
theorem info38 : (Try.prog.info? 38).map (fun i => (i.zero, i.size, i.bytes)) = some (some (.agg #[.string ⟨#[]⟩, .string ⟨#[]⟩]), 2, 32) := by kernel_rfl

/-- Block g has its n times two cells, and they may be written. -/
def Row2 (w : World) (g n : Nat) : Prop := (∀ j, j < n * 2 → ∃ v, w.cell? ⟨g, j, none⟩ = some v) ∧ ∀ j, j < n * 2 → w.frozen? ⟨g, j, none⟩ = false
theorem Row2.set {w : World} {g n : Nat} (h : Row2 w g n) (a : Addr) (v : Value) : Row2 (w.setCell a v) g n :=
  ⟨fun j hj => by obtain ⟨u, hu⟩ := h.1 j hj; exact cell?_setCell_some hu, fun j hj => by rw [World.frozen?_setCell]; exact h.2 j hj⟩
theorem row2_of_own {w : World} {base e g n cap : Nat} {xs : List Value} (h : w.ownsRow base e 2 (.slice (some ⟨g, 0, none⟩) n cap) n xs) : Row2 w g n := by
  refine ⟨fun j hj => ?_, fun j _ => h.frozenAt j⟩
  rw [h.cellAt j hj]
  have : j < xs.length := by rw [h.1]; exact hj
  exact ⟨xs[j], List.getElem?_eq_getElem this⟩
theorem ne_off {g i j : Nat} (h : i ≠ j) : (⟨g, i, none⟩ : Addr) ≠ ⟨g, j, none⟩ := by intro e; cases e; exact h rfl
/-- One pair more is laid. -/
theorem pairs_next {w : World} {g n k : Nat} {R S : Nat → ByteArray} (hrow : Row2 w g n) (hk : k < n) (h : Pairs w g 0 k R S) :
    Pairs ((w.setCell ⟨g, k * 2, none⟩ (.string (R k))).setCell ⟨g, k * 2 + 1, none⟩ (.string (S k))) g 0 (k + 1) R S := by
  intro i hi
  rw [Nat.zero_add]
  by_cases e : i = k
  · subst e
    obtain ⟨v1, h1⟩ := hrow.1 (i * 2) (by omega)
    obtain ⟨v2, h2⟩ := (hrow.set ⟨g, i * 2, none⟩ (.string (R i))).1 (i * 2 + 1) (by omega)
    exact ⟨by rw [World.cell?_setCell_other _ _ _ _ (ne_off (by omega)), World.cell?_setCell_same _ _ _ h1], World.cell?_setCell_same _ _ _ h2⟩
  · obtain ⟨h1, h2⟩ := h i (by omega)
    rw [Nat.zero_add] at h1 h2
    exact ⟨by rw [World.cell?_setCell_other _ _ _ _ (ne_off (by omega)), World.cell?_setCell_other _ _ _ _ (ne_off (by omega)), h1],
      by rw [World.cell?_setCell_other _ _ _ _ (ne_off (by omega)), World.cell?_setCell_other _ _ _ _ (ne_off (by omega)), h2]⟩
theorem Row2.drew {w : World} {g n : Nat} (h : Row2 w g n) : Row2 w.drew g n := h
theorem Pairs.drew {w : World} {b off n : Nat} {R S : Nat → ByteArray} (h : Pairs w b off n R S) : Pairs w.drew b off n R S := h
theorem size_set (w : World) (a : Addr) (v : Value) : (w.setCell a v).heap.size = w.heap.size := by simp [World.setCell]
theorem pairs_none (w : World) (g : Nat) (R S : Nat → ByteArray) : Pairs w g 0 0 R S := fun i hi => by omega
theorem Pairs.below {w w' : World} {b off n B : Nat} {R S : Nat → ByteArray} (h : Pairs w b off n R S) (hb : Below B w w') (hl : b < B) : Pairs w' b off n R S := fun i hi =>
  ⟨(hb.cell (p := ⟨b, off + i * 2, none⟩) hl).trans (h i hi).1, (hb.cell (p := ⟨b, off + i * 2 + 1, none⟩) hl).trans (h i hi).2⟩

theorem cloneZ_nil (w : World) : Calls Try.prog 6 #[.slice none 0 0] w fun e w' => e = .returned (.slice none 0 0) ∧ w = w' := by
  have hnil := fun (w : World) => Lib.run_eql_slice_nil (P := Try.prog) w 22 40 none 0 0 0 0 Try.underlying22
  go_enter Try.func6, Try.ntmps6
  go_wp2
  go_ret
  exact ⟨rfl, rfl⟩

set_option maxHeartbeats 400000 in
theorem cloneZ_at (b off n c : Nat) (R S : Nat → ByteArray) (w : World) (hbl : b < w.heap.size) (hp : Pairs w b off n R S) (hn : n ≤ 1048600) :
    Calls Try.prog 6 #[.slice (some ⟨b, off, none⟩) n c] w fun e w' => e = .returned (.slice (some ⟨w.heap.size, 0, none⟩) n n) ∧
      w.heap.size < w'.heap.size ∧ Pairs w' w.heap.size 0 n R S ∧ Below w.heap.size w w' := by
  have hnil := fun (w : World) => Lib.run_eql_slice_nil (P := Try.prog) w 22 40 (some ⟨b, off, none⟩) n c 0 0 Try.underlying22
  obtain ⟨i0, hi, hz0, hz1, hz2⟩ := info_parts info40
  have hlim : i0.bytes * n ≤ 281474976710656 := by rw [hz2]; omega
  have hmax : n ≤ maxLen := by unfold maxLen; omega
  have HP : Hid (Pairs w b off n R S) := hp
  clear hp
  go_enter Try.func6, Try.ntmps6
  go_wp2_with (at_make; refine wpList_make_full _ rfl _ _ 22 rfl w.heap.size 40 i0 (.agg #[.string ⟨#[]⟩, .string ⟨#[]⟩]) 2 Try.underlying22 hi hz0 hz1 _ _ _ _ n rfl rfl rfl rfl hlim hmax (Nat.le_refl _) ?_)
  intro w1 hown0 hgrow
  have HR : Hid (Row2 w1 w.heap.size n) := row2_of_own hown0
  have hb1 : Below w.heap.size w w1 := (Below.refl _ _).grown hgrow (Nat.le_refl _) (fun k hk => by cases hk)
  have hg1 : w.heap.size < w1.heap.size := (hown0.lt w.heap.size rfl).2
  have HB : Hid (Below w.heap.size w w1 ∧ w.heap.size < w1.heap.size) := ⟨hb1, hg1⟩
  clear hgrow hown0 hi hz0 hz1 hz2 hlim hmax hnil hb1 hg1
  go_wp2
  go_loopw [4] (fun i wr => ∃ k : Nat, k ≤ n ∧ i = .int .i64 k ∧ Row2 wr w.heap.size n ∧ Pairs wr w.heap.size 0 k R S ∧ Below w.heap.size w wr ∧ w.heap.size < wr.heap.size)
    (fun i _ => n - (intOf i).toNat)
  case atStart => exact ⟨0, Nat.zero_le _, rfl, HR.out, pairs_none _ _ _ _, HB.out.1, HB.out.2⟩
  case round =>
    obtain ⟨k, hk, rfl, hrow, hpr, hbr, hgr⟩ := hrel
    have HRW : Hid (Row2 wr w.heap.size n) := hrow
    have HPR : Hid (Pairs wr w.heap.size 0 k R S) := hpr
    have HBR : Hid (Below w.heap.size w wr ∧ w.heap.size < wr.heap.size) := ⟨hbr, hgr⟩
    clear hrow hpr hbr hgr
    by_cases hlt : k < n
    · obtain ⟨g1, g2⟩ := HP.out.below HBR.out.1 hbl k hlt
      obtain ⟨v1, f1⟩ := HRW.out.1 (k * 2) (by omega)
      obtain ⟨v2, f2⟩ := HRW.out.1 (k * 2 + 1) (by omega)
      have q1 := HRW.out.2 (k * 2) (by omega)
      have q2 := HRW.out.2 (k * 2 + 1) (by omega)
      obtain ⟨x, hx⟩ : ∃ x, x = R k := ⟨_, rfl⟩
      obtain ⟨y, hy⟩ : ∃ y, y = S k := ⟨_, rfl⟩
      rw [← hx] at g1
      rw [← hy] at g2
      have HXY : Hid (x = R k ∧ y = S k) := ⟨hx, hy⟩
      clear hx hy
      have HPN : Hid (Pairs ((wr.setCell ⟨w.heap.size, k * 2, none⟩ (.string x)).setCell ⟨w.heap.size, k * 2 + 1, none⟩ (.string y)) w.heap.size 0 (k + 1) R S) := by
        show Pairs _ w.heap.size 0 (k + 1) R S
        rw [HXY.out.1, HXY.out.2]
        exact pairs_next HRW.out hlt HPR.out
      go_wp2
      go_roundw
      case rel => exact ⟨k + 1, by omega, by go_num, (HRW.out.set _ _).set _ _, HPN.out, (HBR.out.1.setCell (Nat.le_refl _) _).setCell (Nat.le_refl _) _, by rw [size_set, size_set]; exact HBR.out.2⟩
      case measure => simp [intOf]; omega
    · have hke : k = n := by omega
      have HF : Hid (Pairs wr w.heap.size 0 n R S) := by rw [hke] at HPR; exact HPR
      clear hke
      go_wp2
      go_ret
      exact ⟨rfl, HBR.out.2, HF.out, HBR.out.1⟩

theorem cloneZ_zero (x : Addr) (c : Nat) (w : World) :
    Calls Try.prog 6 #[.slice (some x) 0 c] w fun e w' => e = .returned (.slice (some ⟨w.heap.size, 0, none⟩) 0 0) ∧ w.heap.size < w'.heap.size ∧ Below w.heap.size w w' := by
  have hnil := fun (w : World) => Lib.run_eql_slice_nil (P := Try.prog) w 22 40 (some x) 0 c 0 0 Try.underlying22
  obtain ⟨i0, hi, hz0, hz1, hz2⟩ := info_parts info40
  have hlim : i0.bytes * 0 ≤ 281474976710656 := by omega
  have hmax : 0 ≤ maxLen := Nat.zero_le _
  go_enter Try.func6, Try.ntmps6
  go_wp2_with (at_make; refine wpList_make_full _ rfl _ _ 22 rfl w.heap.size 40 i0 (.agg #[.string ⟨#[]⟩, .string ⟨#[]⟩]) 2 Try.underlying22 hi hz0 hz1 _ _ _ _ 0 rfl rfl rfl rfl hlim hmax (Nat.le_refl _) ?_)
  intro w1 hown0 hgrow
  have hb1 : Below w.heap.size w w1 := (Below.refl _ _).grown hgrow (Nat.le_refl _) (fun k hk => by cases hk)
  have hg1 : w.heap.size < w1.heap.size := (hown0.lt w.heap.size rfl).2
  have HB : Hid (Below w.heap.size w w1 ∧ w.heap.size < w1.heap.size) := ⟨hb1, hg1⟩
  clear hgrow hown0 hi hz0 hz1 hz2 hlim hmax hnil hb1 hg1
  go_wp2
  refine wp_loop_rounds 1 ?_
  rw [rounds_succ]
  go_wp2
  go_ret
  exact ⟨rfl, HB.out.2, HB.out.1⟩

theorem canon_nil (w : World) : Calls Try.prog 7 #[.slice none 0 0] w fun e w' => e = .returned (.slice none 0 0) ∧ w = w' := by
  have hnil := fun (w : World) => Lib.run_eql_slice_nil (P := Try.prog) w 22 40 none 0 0 0 0 Try.underlying22
  go_enter Try.func7, Try.ntmps7
  go_wp2
  go_ret
  exact ⟨rfl, rfl⟩

theorem canon_zero (x : Addr) (c : Nat) (w : World) :
    Calls Try.prog 7 #[.slice (some x) 0 c] w fun e w' => e = .returned (.slice (some ⟨w.heap.size, 0, none⟩) 0 0) ∧ w.heap.size < w'.heap.size ∧ Below w.heap.size w w' := by
  have hnil := fun (w : World) => Lib.run_eql_slice_nil (P := Try.prog) w 22 40 (some x) 0 c 0 0 Try.underlying22
  obtain ⟨i0, hi, hz0, hz1, hz2⟩ := info_parts info38
  have hlim : i0.bytes * 0 ≤ 281474976710656 := by omega
  have hmax : 0 ≤ maxLen := Nat.zero_le _
  go_enter Try.func7, Try.ntmps7
  go_wp2_with (at_make; refine wpList_make_full _ rfl _ _ 28 rfl w.heap.size 38 i0 (.agg #[.string ⟨#[]⟩, .string ⟨#[]⟩]) 2 Try.underlying28 hi hz0 hz1 _ _ _ _ 0 rfl rfl rfl rfl hlim hmax (Nat.le_refl _) ?_)
  intro w1 hown0 hgrow
  have hb1 : Below w.heap.size w w1 := (Below.refl _ _).grown hgrow (Nat.le_refl _) (fun k hk => by cases hk)
  have hg1 : w.heap.size < w1.heap.size := (hown0.lt w.heap.size rfl).2
  have HB : Hid (Below w.heap.size w w1 ∧ w.heap.size < w1.heap.size) := ⟨hb1, hg1⟩
  clear hgrow hown0 hi hz0 hz1 hz2 hlim hmax hnil hb1 hg1
  go_wp2
  refine wp_loop_rounds 1 ?_
  rw [rounds_succ]
  go_wp2
  go_ret
  exact ⟨rfl, HB.out.2, HB.out.1⟩

set_option maxHeartbeats 1000000 in
theorem canon_at (b off n c : Nat) (R S : Nat → ByteArray) (w : World) (hbl : b < w.heap.size) (hp : Pairs w b off n R S) (hn : n ≤ 1048600) :
    Calls Try.prog 7 #[.slice (some ⟨b, off, none⟩) n c] w fun e w' => e = .returned (.slice (some ⟨w.heap.size, 0, none⟩) n n) ∧
      w.heap.size < w'.heap.size ∧ Pairs w' w.heap.size 0 n R S ∧ Below w.heap.size w w' := by
  have hnil := fun (w : World) => Lib.run_eql_slice_nil (P := Try.prog) w 22 40 (some ⟨b, off, none⟩) n c 0 0 Try.underlying22
  obtain ⟨i0, hi, hz0, hz1, hz2⟩ := info_parts info38
  have hlim : i0.bytes * n ≤ 281474976710656 := by rw [hz2]; omega
  have hmax : n ≤ maxLen := by unfold maxLen; omega
  have HP : Hid (Pairs w b off n R S) := hp
  clear hp
  go_enter Try.func7, Try.ntmps7
  go_wp2_with (at_make; refine wpList_make_full _ rfl _ _ 28 rfl w.heap.size 38 i0 (.agg #[.string ⟨#[]⟩, .string ⟨#[]⟩]) 2 Try.underlying28 hi hz0 hz1 _ _ _ _ n rfl rfl rfl rfl hlim hmax (Nat.le_refl _) ?_)
  intro w1 hown0 hgrow
  have HR : Hid (Row2 w1 w.heap.size n) := row2_of_own hown0
  have hb1 : Below w.heap.size w w1 := (Below.refl _ _).grown hgrow (Nat.le_refl _) (fun k hk => by cases hk)
  have hg1 : w.heap.size < w1.heap.size := (hown0.lt w.heap.size rfl).2
  have HB : Hid (Below w.heap.size w w1 ∧ w.heap.size < w1.heap.size) := ⟨hb1, hg1⟩
  clear hgrow hown0 hi hz0 hz1 hz2 hlim hmax hnil hb1 hg1
  go_wp2
  go_loopw [4] (fun i wr => ∃ k : Nat, k ≤ n ∧ i = .int .i64 k ∧ Row2 wr w.heap.size n ∧ Pairs wr w.heap.size 0 k R S ∧ Below w.heap.size w wr ∧ w.heap.size < wr.heap.size)
    (fun i _ => n - (intOf i).toNat)
  case atStart => exact ⟨0, Nat.zero_le _, rfl, HR.out, pairs_none _ _ _ _, HB.out.1, HB.out.2⟩
  case round =>
    obtain ⟨k, hk, rfl, hrow, hpr, hbr, hgr⟩ := hrel
    have HRW : Hid (Row2 wr w.heap.size n) := hrow
    have HPR : Hid (Pairs wr w.heap.size 0 k R S) := hpr
    have HBR : Hid (Below w.heap.size w wr ∧ w.heap.size < wr.heap.size) := ⟨hbr, hgr⟩
    clear hrow hpr hbr hgr
    by_cases hlt : k < n
    · obtain ⟨g1, g2⟩ := HP.out.below HBR.out.1 hbl k hlt
      obtain ⟨v1, f1⟩ := HRW.out.1 (k * 2) (by omega)
      obtain ⟨v2, f2⟩ := HRW.out.1 (k * 2 + 1) (by omega)
      have q1 := HRW.out.2 (k * 2) (by omega)
      have q2 := HRW.out.2 (k * 2 + 1) (by omega)
      obtain ⟨x, hx⟩ : ∃ x, x = R k := ⟨_, rfl⟩
      obtain ⟨y, hy⟩ : ∃ y, y = S k := ⟨_, rfl⟩
      rw [← hx] at g1
      rw [← hy] at g2
      have HXY : Hid (x = R k ∧ y = S k) := ⟨hx, hy⟩
      clear hx hy
      have HPN : Hid (Pairs ((wr.setCell ⟨w.heap.size, k * 2, none⟩ (.string x)).setCell ⟨w.heap.size, k * 2 + 1, none⟩ (.string y)) w.heap.size 0 (k + 1) R S) := by
        show Pairs _ w.heap.size 0 (k + 1) R S
        rw [HXY.out.1, HXY.out.2]
        exact pairs_next HRW.out hlt HPR.out
      have hk0 : (0 : Int) ≤ (k : Int) := by omega
      have hkn : (k : Int) < (n : Int) := by omega
      go_wp2
      go_region
      go_wp2
      go_roundw
      case rel => exact ⟨k + 1, by omega, by go_num, ((HRW.out.set _ _).set _ _).drew, HPN.out.drew, ((HBR.out.1.setCell (Nat.le_refl _) _).setCell (Nat.le_refl _) _).drew, by show _ < (World.setCell _ _ _).heap.size; rw [size_set, size_set]; exact HBR.out.2⟩
      case measure => simp [intOf]; omega
    · have hke : k = n := by omega
      have HF : Hid (Pairs wr w.heap.size 0 n R S) := by rw [hke] at HPR; exact HPR
      clear hke
      go_wp2
      go_ret
      exact ⟨rfl, HBR.out.2, HF.out, HBR.out.1⟩
end Go.Proofs.Qxb6616063a
