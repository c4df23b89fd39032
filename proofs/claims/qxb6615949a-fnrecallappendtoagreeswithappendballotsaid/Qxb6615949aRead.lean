/-
  The walk of zzReadUvarint (23): it reads back what AppendUvarint wrote.
-/
import Derived.Test.Qxb6615949aUv
import Derived.Lib.VarintBits
namespace Go.Proofs.Qxb6615949a
open Go.RowKit Go.WideShapes

/-- The first byte of a varint. -/
def hd (y : Nat) : Nat := if y < 128 then y else y % 128 + 128
theorem uv_hd (y : Nat) (r : List Int) : ∃ t, uv y ++ r = (hd y : Int) :: t := by
  unfold hd
  by_cases h : y < 128
  · rw [uv_small h, if_pos h]; exact ⟨_, rfl⟩
  · rw [uv_big (by omega), if_neg h]; exact ⟨_, rfl⟩

/-- Where the reader stands: k bytes of x's varint are read. -/
structure At (L rest : List Int) (i x k acc y : Nat) : Prop where
  here : L.drop (i + k) = uv y ++ rest
  low : acc < 2 ^ (7 * k)
  sum : x = acc + y * 2 ^ (7 * k)
  some : 0 < k → 1 ≤ y
  len : (uv x).length = k + (uv y).length

theorem At.start {L rest : List Int} {i x : Nat} (h : L.drop i = uv x ++ rest) : At L rest i x 0 0 x := ⟨by simpa using h, by simp, by simp, by simp, by simp⟩

theorem At.cell {L rest : List Int} {i x k acc y : Nat} (h : At L rest i x k acc y) : i + k < L.length ∧ L.getD (i + k) 0 = hd y := by
  obtain ⟨t, ht⟩ := uv_hd y rest
  have h1 : L.drop (i + k) = (hd y : Int) :: t := h.here.trans ht
  have h2 : i + k < L.length := by
    rcases Nat.lt_or_ge (i + k) L.length with h' | h'
    · exact h'
    · rw [List.drop_eq_nil_of_le h'] at h1; cases h1
  refine ⟨h2, ?_⟩
  rw [List.drop_eq_getElem_cons h2] at h1
  rw [List.getD_eq_getElem?_getD, List.getElem?_eq_getElem h2]
  exact (List.cons.inj h1).1

theorem At.next {L rest : List Int} {i x k acc y : Nat} (h : At L rest i x k acc y) (hy : 128 ≤ y) : At L rest i x (k + 1) (acc + y % 128 * 2 ^ (7 * k)) (y / 128) := by
  obtain ⟨h1, h2, h3, h4, h5⟩ := h
  have e : 2 ^ (7 * (k + 1)) = 128 * 2 ^ (7 * k) := by rw [Nat.mul_add, Nat.mul_one, Nat.pow_add, Nat.mul_comm]
  have hd : y = y / 128 * 128 + y % 128 := by omega
  refine ⟨?_, ?_, ?_, ?_, ?_⟩
  · have : L.drop (i + (k + 1)) = (L.drop (i + k)).drop 1 := by rw [List.drop_drop]; rfl
    rw [this, h1, uv_big hy]
    rfl
  · rw [e]
    have : y % 128 * 2 ^ (7 * k) ≤ 127 * 2 ^ (7 * k) := Nat.mul_le_mul_right _ (by omega)
    omega
  · rw [e, h3]
    have : y * 2 ^ (7 * k) = y / 128 * (128 * 2 ^ (7 * k)) + y % 128 * 2 ^ (7 * k) := by
      conv => lhs; rw [hd]
      rw [Nat.add_mul, Nat.mul_assoc]
    omega
  · intro _; omega
  · rw [h5, uv_big hy, List.length_cons]; omega

/-- At the tenth byte there is one bit left. -/
theorem At.last {L rest : List Int} {i x k acc y : Nat} (h : At L rest i x k acc y) (hx : x < 18446744073709551616) : (k ≤ 9 → k = 9 → y ≤ 1) ∧ (k ≤ 9 → 128 ≤ y → k + 1 ≤ 9) := by
  have hs := h.sum
  refine ⟨fun _ h9 => ?_, fun h9 hy => ?_⟩
  · subst h9
    have e : 2 ^ (7 * 9) = 9223372036854775808 := by decide
    rw [e] at hs
    omega
  · rcases Nat.lt_or_ge k 9 with h' | h'
    · omega
    · obtain rfl : k = 9 := by omega
      have e : 2 ^ (7 * 9) = 9223372036854775808 := by decide
      rw [e] at hs
      omega

theorem pow_int (k : Nat) : ((2 ^ k : Nat) : Int) = (2 : Int) ^ k := by simp
theorem and127 {a : Int} (h0 : 0 ≤ a) (h1 : a < 256) : bits .and .u8 a 127 = a % 128 := bits_mask .u8 8 (by decide) wraps_u8 7 (by decide) a h0 h1
/-- 'acc | m << 7k' where acc lies below 2^7k. -/
theorem or_shift {acc m k : Nat} (hlow : acc < 2 ^ (7 * k)) (hm : acc + m * 2 ^ (7 * k) < 18446744073709551616) :
    bits .or .u64 (acc : Int) (IntKind.u64.wrap ((m : Int) * 2 ^ (7 * k))) = ((acc + m * 2 ^ (7 * k) : Nat) : Int) := by
  have e : (m : Int) * 2 ^ (7 * k) = ((m * 2 ^ (7 * k) : Nat) : Int) := by rw [Int.natCast_mul, pow_int]
  have e64 : (2 : Int) ^ 64 = 18446744073709551616 := by decide
  rw [e, wraps_u64 _ (by omega) (by rw [e64]; omega)]
  rw [bits_join_low .u64 64 (by decide) wraps_u64 (7 * k) _ _ (by omega) (by rw [← pow_int]; omega) (by rw [e64]; omega) (by omega) ?_ (by rw [e64]; omega)]
  · omega
  · rw [← pow_int, ← Int.natCast_emod, Nat.mul_mod_left]
    rfl
theorem or_mid {L rest : List Int} {i x k acc y : Nat} (h : At L rest i x k acc y) (hx : x < 18446744073709551616) :
    bits .or .u64 (acc : Int) (IntKind.u64.wrap (IntKind.u64.wrap (bits .and .u8 ((y : Int) % 128 + 128) 127) * 2 ^ (7 * k))) = ((acc + y % 128 * 2 ^ (7 * k) : Nat) : Int) := by
  have e : bits .and .u8 ((y : Int) % 128 + 128) 127 = ((y % 128 : Nat) : Int) := by rw [and127 (by omega) (by omega)]; omega
  have e64 : (2 : Int) ^ 64 = 18446744073709551616 := by decide
  rw [e, wraps_u64 ((y % 128 : Nat) : Int) (by omega) (by rw [e64]; omega), or_shift h.low]
  have hs := h.sum
  have : y % 128 * 2 ^ (7 * k) ≤ y * 2 ^ (7 * k) := Nat.mul_le_mul_right _ (Nat.mod_le _ _)
  omega
theorem or_end {L rest : List Int} {i x k acc y : Nat} (h : At L rest i x k acc y) (hx : x < 18446744073709551616) :
    bits .or .u64 (acc : Int) (IntKind.u64.wrap ((y : Int) * 2 ^ (7 * k))) = (x : Int) := by
  have hs := h.sum
  rw [or_shift h.low (by omega), ← hs]

theorem ret_three {a a' b b' : Int} (h1 : a = a') (h2 : b = b') : Ending.returned (.tuple #[.int .u64 a, .int .i64 b, .bool true]) = .returned (.tuple #[.int .u64 a', .int .i64 b', .bool true]) := by rw [h1, h2]

set_option maxHeartbeats 1000000 in
set_option maxRecDepth 100000 in
theorem readUv (b off n c i x : Nat) (L rest : List Int) (w : World) (hn : n ≤ 2000000) (hL : L.length = n) (hcell : ∀ j, j < n → w.cell? ⟨b, off + j, none⟩ = some (.int .u8 (L.getD j 0)))
    (hi : i ≤ n) (hx : x < 18446744073709551616) (hd0 : L.drop i = uv x ++ rest) :
    Calls Try.prog 23 #[.slice (some ⟨b, off, none⟩) n c, .int .i64 i] w fun e w' => e = .returned (.tuple #[.int .u64 x, .int .i64 ((i + (uv x).length : Nat) : Int), .bool true]) ∧ w' = w := by
  have HX : Hid (x < 18446744073709551616) := hx
  have HD : Hid (L.drop i = uv x ++ rest) := hd0
  have HC : Hid (∀ j, j < n → w.cell? ⟨b, off + j, none⟩ = some (.int .u8 (L.getD j 0))) := hcell
  have HL : Hid (L.length = n) := hL
  clear hx hd0 hcell hL
  go_enter Try.func23, Try.ntmps23
  go_wp2
  go_loop [7, 8, 9] (fun v sh kk => ∃ k acc y : Nat, k ≤ 9 ∧ kk = .int .i64 k ∧ sh = .int .u64 (7 * k : Nat) ∧ v = .int .u64 acc ∧ At L rest i x k acc y) (fun _ _ kk => 10 - (intOf kk).toNat)
  case atStart => exact ⟨0, 0, x, by omega, rfl, rfl, rfl, At.start HD.out⟩
  case round =>
    obtain ⟨k, acc, y, hk, rfl, rfl, rfl, hat⟩ := hrel
    obtain ⟨hin, hc⟩ := hat.cell
    have hlt : i + k < n := by rw [HL.out] at hin; exact hin
    have hck := HC.out (i + k) hlt
    rw [hc] at hck
    have HAT : Hid (At L rest i x k acc y) := hat
    obtain ⟨hl1, hl2⟩ := hat.last HX.out
    clear hat hin hc
    have hk10 : (k : Int) < 10 := by omega
    by_cases h128 : 128 ≤ y
    · have hh : hd y = y % 128 + 128 := by unfold hd; rw [if_neg (by omega)]
      rw [hh] at hck
      have hk9 := hl2 hk h128
      clear hh hl1 hl2
      go_wp2
      go_round
      case rel => exact ⟨k + 1, _, y / 128, by omega, by go_num, by go_num, congrArg (Value.int .u64) (or_mid HAT.out HX.out), HAT.out.next h128⟩
      case measure => simp [intOf]; omega
    · have hh : hd y = y := by unfold hd; rw [if_pos (by omega)]
      rw [hh] at hck
      have hy1 : (y : Int) < 128 := by omega
      have hpos := HAT.out.some
      have hln := HAT.out.len
      rw [uv_small (x := y) (by omega)] at hln
      have HLN : Hid ((uv x).length = k + [(y : Int)].length) := hln
      clear hh hl2 hln
      by_cases h9 : k = 9
      · have hy2 := hl1 hk h9
        have hy3 := hpos (by omega)
        have hb9 : ((k : Int) == 9) = true := by simp; omega
        have hk0 : (0 : Int) < (k : Int) := by omega
        clear h9 hl1 hpos
        go_wp2
        go_ret3
        exact ⟨ret_three (or_end HAT.out HX.out) (by rw [HLN.out]; simp; omega), rfl⟩
      · have hb9 : ((k : Int) == 9) = false := by simp; omega
        clear hl1 h9
        by_cases hk0 : 0 < k
        · have hy3 := hpos hk0
          have hk0' : (0 : Int) < (k : Int) := by omega
          clear hpos hk0
          go_wp2
          go_ret3
          exact ⟨ret_three (or_end HAT.out HX.out) (by rw [HLN.out]; simp; omega), rfl⟩
        · have hdk : decide ((0 : Int) < (k : Int)) = false := decide_eq_false (by omega)
          have HK : Hid (k = 0) := by show k = 0; omega
          clear hpos hk0
          go_wp2
          all_goals first | (exfalso; have h0 := HK.out; omega) | (go_ret3; exact ⟨ret_three (or_end HAT.out HX.out) (by rw [HLN.out]; simp; omega), rfl⟩)
end Go.Proofs.Qxb6615949a
