/-
  The walk of zzIsPrefixThenTwo (12), where it answers true.
-/
import Derived.Test.Qxb6615949aRead
import Derived.Deep.QuietTactic
import Derived.BigQuiet
namespace Go.Proofs.Qxb6615949a
open Go.RowKit Go.WideShapes

theorem readUv_w (b off n c i x : Nat) (L rest : List Int) (w : World) (hn : n ≤ 2000000) (hL : L.length = n) (hcell : ∀ j, j < n → w.cell? ⟨b, off + j, none⟩ = some (.int .u8 (L.getD j 0)))
    (hi : i ≤ n) (hx : x < 18446744073709551616) (hd0 : L.drop i = uv x ++ rest) :
    Calls Try.prog 23 #[.slice (some ⟨b, off, none⟩) n c, .int .i64 i] w fun e w' => e = .returned (.tuple #[.int .u64 x, .int .i64 ((i + (uv x).length : Nat) : Int), .bool true]) ∧ w = w' :=
  (readUv b off n c i x L rest w hn hL hcell hi hx hd0).mono fun _ _ h => ⟨h.1, h.2.symm⟩

theorem readUv_i (b off n c i x : Nat) (I : Int) (hI : I = (i : Int)) (L rest : List Int) (w : World) (hn : n ≤ 2000000) (hL : L.length = n) (hcell : ∀ j, j < n → w.cell? ⟨b, off + j, none⟩ = some (.int .u8 (L.getD j 0)))
    (hi : i ≤ n) (hx : x < 18446744073709551616) (hd0 : L.drop i = uv x ++ rest) :
    Calls Try.prog 23 #[.slice (some ⟨b, off, none⟩) n c, .int .i64 I] w fun e w' => e = .returned (.tuple #[.int .u64 x, .int .i64 ((i + (uv x).length : Nat) : Int), .bool true]) ∧ w = w' := by
  rw [hI]
  exact readUv_w b off n c i x L rest w hn hL hcell hi hx hd0

theorem drop_two (l m r : List Int) : (l ++ m ++ r).drop l.length = m ++ r := by rw [List.append_assoc, List.drop_left]
theorem drop_three (l m r : List Int) : (l ++ m ++ r).drop (l.length + m.length) = r := by rw [← List.length_append, List.drop_left]
theorem bool_back {a b : Bool} (h : a = b) : Ending.returned (.bool a) = .returned (.bool b) := by rw [h]

set_option maxHeartbeats 2000000 in
set_option maxRecDepth 100000 in
theorem prefix_at (b1 o1 b2 o2 n N c1 c2 x y : Nat) (l : List Int) (w : World) (hl : l.length = n) (hN : (l ++ uv x ++ uv y).length = N) (hlim : N ≤ 2000000) (hx : x < 18446744073709551616) (hy : y < 18446744073709551616)
    (h1 : ∀ i, i < N → w.cell? ⟨b1, o1 + i, none⟩ = some (.int .u8 ((l ++ uv x ++ uv y).getD i 0))) (h2 : ∀ i, i < n → w.cell? ⟨b2, o2 + i, none⟩ = some (.int .u8 (l.getD i 0))) :
    Calls Try.prog 12 #[.slice (some ⟨b1, o1, none⟩) N c1, .slice (some ⟨b2, o2, none⟩) n c2, .int .u64 x, .int .u64 y] w fun e w' => e = .returned (.bool true) ∧ ∃ q, w' = w.drewN q := by
  have hlen : n + (uv x).length + (uv y).length = N := by rw [List.length_append, List.length_append, hl] at hN; exact hN
  have hux := uv_pos x
  have huy := uv_pos y
  have hNn : (n : Int) ≤ (N : Int) := by omega
  have HX : Hid (x < 18446744073709551616 ∧ y < 18446744073709551616) := ⟨hx, hy⟩
  have HN : Hid ((l ++ uv x ++ uv y).length = N) := hN
  have HL : Hid (l.length = n) := hl
  have H1 : Hid (∀ i, i < N → w.cell? ⟨b1, o1 + i, none⟩ = some (.int .u8 ((l ++ uv x ++ uv y).getD i 0))) := h1
  have H2 : Hid (∀ i, i < n → w.cell? ⟨b2, o2 + i, none⟩ = some (.int .u8 (l.getD i 0))) := h2
  have HLEN : Hid (n + (uv x).length + (uv y).length = N) := hlen
  clear hx hy hN hl h1 h2 hlen
  go_enter Try.func12, Try.ntmps12
  go_wp2
  go_loopw [9] (fun i wr => ∃ k q : Nat, k ≤ n ∧ i = .int .i64 k ∧ wr = w.drewN q) (fun i _ => n - (intOf i).toNat)
  case atStart => exact ⟨0, 0, Nat.zero_le _, rfl, rfl⟩
  case round =>
    obtain ⟨k, q, hk, rfl, hq⟩ := hrel
    have HQ : Hid (wr = w.drewN q) := hq
    clear hq
    by_cases hlt : k < n
    · have g1 : wr.cell? ⟨b1, o1 + k, none⟩ = some (.int .u8 (l.getD k 0)) := by
        rw [HQ.out]
        show w.cell? _ = _
        rw [H1.out k (by omega), List.append_assoc, List.getD_eq_getElem?_getD, List.getElem?_append_left (by rw [HL.out]; exact hlt), List.getD_eq_getElem?_getD]
      have g2 : wr.cell? ⟨b2, o2 + k, none⟩ = some (.int .u8 (l.getD k 0)) := by
        rw [HQ.out]
        exact H2.out k hlt
      obtain ⟨z, hz⟩ : ∃ z, z = l.getD k 0 := ⟨_, rfl⟩
      rw [← hz] at g1 g2
      clear hz
      have hk1 : (k : Int) < (n : Int) := by omega
      have hk2 : (k : Int) < (N : Int) := by omega
      have hk0 : (0 : Int) ≤ (k : Int) := by omega
      have hzz : (z != z) = false := by simp
      go_wp2
      go_quiet (fail)
      go_wp2
      go_roundw
      case rel => exact ⟨k + 1, q + _, by omega, by go_num, by rw [HQ.out, World.drewN_drewN]⟩
      case measure => simp [intOf]; omega
    · have G1 : Hid (∀ i, i < N → wr.cell? ⟨b1, o1 + i, none⟩ = some (.int .u8 ((l ++ uv x ++ uv y).getD i 0))) := by
        show ∀ i, i < N → wr.cell? ⟨b1, o1 + i, none⟩ = some (.int .u8 ((l ++ uv x ++ uv y).getD i 0))
        rw [HQ.out]
        exact H1.out
      go_wp2_with fail
      refine (readUv_w b1 o1 N c1 n x (l ++ uv x ++ uv y) (uv y) wr hlim HN.out G1.out (by omega) HX.out.1 (by rw [← HL.out]; exact drop_two _ _ _)).mono ?_
      rintro e w' ⟨rfl, rfl⟩
      go_wp2_with fail
      refine (readUv_i b1 o1 N c1 (n + (uv x).length) y _ (by omega) (l ++ uv x ++ uv y) [] wr hlim HN.out G1.out (by have := HLEN.out; omega) HX.out.2 (by rw [← HL.out, drop_three, List.append_nil])).mono ?_
      rintro e w' ⟨rfl, rfl⟩
      have hNN : (n : Int) + ((uv x).length : Int) + ((uv y).length : Int) = (N : Int) := by have := HLEN.out; omega
      go_wp2
      go_ret
      exact ⟨bool_back (by simp), q, HQ.out⟩

set_option maxHeartbeats 2000000 in
set_option maxRecDepth 100000 in
theorem prefix_zero (b1 o1 N c1 c2 x y : Nat) (a2 : Option Addr) (w : World) (hN : (uv x ++ uv y).length = N) (hlim : N ≤ 2000000) (hx : x < 18446744073709551616) (hy : y < 18446744073709551616)
    (h1 : ∀ i, i < N → w.cell? ⟨b1, o1 + i, none⟩ = some (.int .u8 ((uv x ++ uv y).getD i 0))) :
    Calls Try.prog 12 #[.slice (some ⟨b1, o1, none⟩) N c1, .slice a2 0 c2, .int .u64 x, .int .u64 y] w fun e w' => e = .returned (.bool true) ∧ ∃ q, w' = w.drewN q := by
  have hlen : (uv x).length + (uv y).length = N := by rw [List.length_append] at hN; exact hN
  have HX : Hid (x < 18446744073709551616 ∧ y < 18446744073709551616) := ⟨hx, hy⟩
  have HN : Hid ((uv x ++ uv y).length = N) := hN
  have H1 : Hid (∀ i, i < N → w.cell? ⟨b1, o1 + i, none⟩ = some (.int .u8 ((uv x ++ uv y).getD i 0))) := h1
  have HLEN : Hid ((uv x).length + (uv y).length = N) := hlen
  clear hx hy hN h1 hlen
  go_enter Try.func12, Try.ntmps12
  go_wp2
  refine wp_loop_rounds 1 ?_
  rw [rounds_succ]
  go_wp2_with fail
  refine (readUv_i b1 o1 N c1 0 x _ (by simp) (uv x ++ uv y) (uv y) w hlim HN.out H1.out (by omega) HX.out.1 (by simp)).mono ?_
  rintro e w' ⟨rfl, rfl⟩
  go_wp2_with fail
  refine (readUv_i b1 o1 N c1 (uv x).length y _ (by omega) (uv x ++ uv y) [] w hlim HN.out H1.out (by have := HLEN.out; omega) HX.out.2 (by simp)).mono ?_
  rintro e w' ⟨rfl, rfl⟩
  have hNN : ((uv x).length : Int) + ((uv y).length : Int) = (N : Int) := by have := HLEN.out; omega
  go_wp2
  go_ret
  exact ⟨bool_back (by simp), 0, rfl⟩

/-- zzIsPrefixThenTwo at what the appenders leave: true. -/
theorem prefix_any (g N c1 n c2 x y : Nat) (a2 : Option Addr) (l : List Int) (w : World) (hlim : N ≤ 2000000) (hx : x < 18446744073709551616) (hy : y < 18446744073709551616)
    (h1 : Seg w (some ⟨g, 0, none⟩) N (l ++ uv x ++ uv y)) (h2 : Seg w a2 n l) :
    Calls Try.prog 12 #[.slice (some ⟨g, 0, none⟩) N c1, .slice a2 n c2, .int .u64 x, .int .u64 y] w fun e w' => e = .returned (.bool true) ∧ ∃ q, w' = w.drewN q := by
  obtain ⟨k1, k2, k3⟩ := h1
  obtain ⟨m1, m2, m3⟩ := h2
  have hux := uv_pos x
  have hN0 : N ≠ 0 := by rw [← k1, List.length_append, List.length_append]; omega
  rcases k3 with k3 | ⟨b1, o1, hb, _, g1⟩
  · exact absurd k3 hN0
  · simp at hb
    obtain ⟨rfl, rfl⟩ := hb
    rcases m3 with rfl | ⟨b2, o2, rfl, _, g2⟩
    · obtain rfl : l = [] := List.length_eq_zero_iff.1 m1
      exact prefix_zero g 0 N c1 c2 x y a2 w (by simpa using k1) hlim hx hy (by simpa using g1)
    · exact prefix_at g 0 b2 o2 n N c1 c2 x y l w m1 k1 hlim hx hy g1 g2
end Go.Proofs.Qxb6615949a
