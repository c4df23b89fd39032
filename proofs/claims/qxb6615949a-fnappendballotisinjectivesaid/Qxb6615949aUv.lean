/-
  Varints as lists of numbers; the walk of encoding/binary.AppendUvarint (41) onto a slice that the call owns.
-/
import Derived.Test.Qxb6615949aClone
import Derived.Lib.Varint
import Derived.Maps.AppendAt
namespace Go.Proofs.Qxb6615949a
open Go.RowKit Go.WideShapes

/-- The varint of x, its bytes as numbers. -/
def uv (x : Nat) : List Int := (Lib.uvarint x).map fun b => (b.toNat : Int)
theorem uv_small {x : Nat} (h : x < 128) : uv x = [(x : Int)] := by
  unfold uv
  rw [Lib.uvarint_small h]
  simp [Nat.mod_eq_of_lt (show x < 256 by omega)]
theorem uv_big {x : Nat} (h : 128 ≤ x) : uv x = ((x % 128 + 128 : Nat) : Int) :: uv (x / 128) := by
  unfold uv
  rw [Lib.uvarint_big h, List.map_cons]
  congr 1
  simp [Nat.mod_eq_of_lt (show x % 128 + 128 < 256 by omega)]
theorem uv_length {x : Nat} (h : x < 18446744073709551616) : (uv x).length ≤ 10 := by
  unfold uv
  rw [List.length_map]
  exact Lib.uvarint_length64 h
theorem uv_pos (x : Nat) : 1 ≤ (uv x).length := by
  unfold uv
  rw [List.length_map]
  exact Lib.uvarint_pos x
theorem uv_range (x : Nat) : ∀ y ∈ uv x, 0 ≤ y ∧ y ≤ 255 := by
  intro y hy
  simp only [uv, List.mem_map] at hy
  obtain ⟨b, _, rfl⟩ := hy
  have := b.toNat_lt
  omega
theorem byteVals_append (l m : List Int) : byteVals (l ++ m) = byteVals l ++ byteVals m := by simp [byteVals]

/-- Two steps that write the one row, or blocks that were not there. -/
theorem grown_trans {a b c : World} {row row' : Option Nat} (h : a.grownBy b row) (k : b.grownBy c row') (hr : ∀ j, row' = some j → row' = row ∨ a.heap.size ≤ j) : a.grownBy c row :=
  ⟨k.os.trans h.os, k.tape.trans h.tape, k.output.trans h.output, Nat.le_trans h.size k.size, fun j hj hne => by
    rw [k.block j (Nat.lt_of_lt_of_le hj h.size) (fun e => by
      rcases hr j e.symm with h' | h'
      · exact hne (e.trans h')
      · omega)]
    exact h.block j hj hne⟩

set_option maxHeartbeats 1000000 in
set_option maxRecDepth 100000 in
/-- AppendUvarint onto a slice that the call owns. -/
theorem appendUv (B n x : Nat) (hx : x < 18446744073709551616) (sv : Value) (l : List Int) (w : World) (hown : w.ownsRow B 5 1 sv n (byteVals l)) (hB : B ≤ w.heap.size) (hlim : n ≤ 2000000) :
    Calls Try.prog 41 #[sv, .int .u64 x] w fun e w' => ∃ g cap, e = .returned (.slice (some ⟨g, 0, none⟩) (n + (uv x).length) cap) ∧ w'.ownsRow B 5 1 (.slice (some ⟨g, 0, none⟩) (n + (uv x).length) cap) (n + (uv x).length) (byteVals (l ++ uv x)) ∧ w.grownBy w' sv.ownBlock ∧ (sv.ownBlock = some g ∨ w.heap.size ≤ g) := by
  obtain ⟨i0, hi, hz0, hz1, hz2⟩ := info_parts info5
  have hlen := uv_length hx
  have HO : Hid (w.ownsRow B 5 1 sv n (byteVals l)) := hown
  clear hown hx
  go_enter Try.func41, Try.ntmps41
  go_wp2
  go_loopw [0, 1] (fun vb vx wr => ∃ (y : Nat) (pre : List Int) (V : Value), V = vb ∧ vx = .int .u64 y ∧ y ≤ x ∧ uv x = pre ++ uv y ∧ wr.ownsRow B 5 1 V (n + pre.length) (byteVals (l ++ pre)) ∧ w.grownBy wr sv.ownBlock ∧ ∀ j, V.ownBlock = some j → V.ownBlock = sv.ownBlock ∨ w.heap.size ≤ j)
    (fun _ vx _ => (intOf vx).toNat)
  case atStart => exact ⟨x, [], _, rfl, rfl, Nat.le_refl _, rfl, by simpa using HO.out, World.grownBy.refl _ _, fun j _ => .inl rfl⟩
  case round =>
    obtain ⟨y, pre, V, rfl, rfl, hy, hsplit, hown1, hnx, hrow⟩ := hrel
    have hpl : pre.length + (uv y).length ≤ 10 := by
      have h2 := congrArg List.length hsplit
      rw [List.length_append] at h2
      omega
    have hyp := uv_pos y
    have HSP : Hid (uv x = pre ++ uv y) := hsplit
    have HO1 : Hid (wr.ownsRow B 5 1 V (n + pre.length) (byteVals (l ++ pre))) := hown1
    have HNX : Hid (w.grownBy wr sv.ownBlock ∧ ∀ j, V.ownBlock = some j → V.ownBlock = sv.ownBlock ∨ w.heap.size ≤ j) := ⟨hnx, hrow⟩
    have hwz : w.heap.size ≤ wr.heap.size := hnx.size
    clear hsplit hown1 hnx hrow
    by_cases h128 : 128 ≤ y
    · have hor : bits .or .u8 ((y : Int) % 256) 128 = ((y % 128 + 128 : Nat) : Int) := by
        rw [Lib.u8_or128_any _ (by omega) (by omega)]
        omega
      go_wp2_with (at_builtin; refine wpList_append_own_at _ rfl _ _ 22 rfl B 5 i0 (.int .u8 0) 1 1 Try.underlying22 hi hz0 hz1 hz2 rfl (by decide) V _ _ rfl (HO1.out.alloc _) ⟨wr.heap.size, 0, none⟩ 1 1 _ rfl rfl (cell_one_new _ _ _) ?c2 ?c3 ?c4 ?c5 ?_)
      case c2 => intro u hu; simp at hu; subst hu; rfl
      case c3 => unfold maxLen; omega
      case c4 => omega
      case c5 => simp; omega
      intro v' w1 hown' hgrow _ hat
      have hnx1 : w.grownBy w1 sv.ownBlock := grown_trans (grown_trans HNX.out.1 (World.grownBy_alloc _ _ none) (fun j hj => by cases hj)) hgrow HNX.out.2
      have hrow1 : ∀ j, v'.ownBlock = some j → v'.ownBlock = sv.ownBlock ∨ w.heap.size ≤ j := by
        intro j hj
        rcases hat with e | e
        · rw [e] at hj ⊢; exact HNX.out.2 j hj
        · rw [e] at hj; simp at hj; right; omega
      have HO2 : Hid (w1.ownsRow B 5 1 v' (n + (pre ++ [(y : Int) % 128 + 128]).length) (byteVals (l ++ (pre ++ [(y : Int) % 128 + 128])))) := by
        show w1.ownsRow B 5 1 v' (n + (pre ++ [(y : Int) % 128 + 128]).length) (byteVals (l ++ (pre ++ [(y : Int) % 128 + 128])))
        rw [← List.append_assoc, byteVals_append (l ++ pre), List.length_append, List.length_singleton, ← Nat.add_assoc]
        exact hown'
      have HS2 : Hid (uv x = (pre ++ [(y : Int) % 128 + 128]) ++ uv (y / 128)) := by
        show uv x = (pre ++ [(y : Int) % 128 + 128]) ++ uv (y / 128)
        rw [HSP.out, uv_big h128, List.append_assoc]
        rfl
      have HB2 : Hid (w.grownBy w1 sv.ownBlock ∧ ∀ j, v'.ownBlock = some j → v'.ownBlock = sv.ownBlock ∨ w.heap.size ≤ j) := ⟨hnx1, hrow1⟩
      clear hown' hgrow hnx1 hor hat hrow1
      go_wp2
      go_roundw
      case rel => exact ⟨y / 128, pre ++ [(y : Int) % 128 + 128], v', rfl, by go_num, by omega, HS2.out, HO2.out, HB2.out⟩
      case measure => simp [intOf]; omega
    · have hmod : (y : Int) % 256 = y := by omega
      go_wp2_with (at_builtin; refine wpList_append_own_at _ rfl _ _ 22 rfl B 5 i0 (.int .u8 0) 1 1 Try.underlying22 hi hz0 hz1 hz2 rfl (by decide) V _ _ rfl (HO1.out.alloc _) ⟨wr.heap.size, 0, none⟩ 1 1 _ rfl rfl (cell_one_new _ _ _) ?d2 ?d3 ?d4 ?d5 ?_)
      case d2 => intro u hu; simp at hu; subst hu; rfl
      case d3 => unfold maxLen; omega
      case d4 => omega
      case d5 => simp; omega
      intro v' w1 hown' hgrow hnn hat
      have hnx1 : w.grownBy w1 sv.ownBlock := grown_trans (grown_trans HNX.out.1 (World.grownBy_alloc _ _ none) (fun j hj => by cases hj)) hgrow HNX.out.2
      have hrow1 : ∀ j, v'.ownBlock = some j → v'.ownBlock = sv.ownBlock ∨ w.heap.size ≤ j := by
        intro j hj
        rcases hat with e | e
        · rw [e] at hj ⊢; exact HNX.out.2 j hj
        · rw [e] at hj; simp at hj; right; omega
      have hu : uv x = pre ++ [(y : Int)] := by rw [HSP.out, uv_small (by omega)]
      have hL : n + (uv x).length = n + pre.length + 1 := by rw [hu, List.length_append, List.length_singleton, Nat.add_assoc]
      have ho2 : w1.ownsRow B 5 1 v' (n + (uv x).length) (byteVals (l ++ uv x)) := by
        rw [hL, hu, ← List.append_assoc, byteVals_append (l ++ pre)]
        exact hown'
      obtain ⟨g, cap, hvv⟩ : ∃ g cap, v' = .slice (some ⟨g, 0, none⟩) (n + (uv x).length) cap := by
        rcases ho2.2 with ⟨h1, h2⟩ | ⟨g, cap, cur, h1, _⟩
        · have := uv_pos x; omega
        · exact ⟨g, cap, h1⟩
      have hg : sv.ownBlock = some g ∨ w.heap.size ≤ g := by
        have h := hrow1 g (by rw [hvv]; rfl)
        rw [hvv] at h
        rcases h with h | h
        · exact .inl h.symm
        · exact .inr h
      rw [hvv] at ho2 ⊢
      have HF : Hid (w1.ownsRow B 5 1 (.slice (some ⟨g, 0, none⟩) (n + (uv x).length) cap) (n + (uv x).length) (byteVals (l ++ uv x)) ∧ w.grownBy w1 sv.ownBlock ∧ (sv.ownBlock = some g ∨ w.heap.size ≤ g)) := ⟨ho2, hnx1, hg⟩
      clear hown' hgrow hnn hnx1 hu hL ho2 hvv hmod hat hrow1 hg
      go_wp2
      go_ret
      exact ⟨g, cap, rfl, HF.out⟩
end Go.Proofs.Qxb6615949a
