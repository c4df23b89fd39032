/-
  The walks of zzBytesEqual (11).
-/
import Derived.Test.Qxb6615960aFmtProg
import Derived.Test.Qxb6615960aFmtBase
import Derived.Lib.SliceRun
import Derived.Deep.QuietTactic
import Derived.BigQuiet
namespace Go.Proofs.Qxb6615960aFmt
open Go.RowKit Go.WideShapes

theorem bool_ret {a b : Bool} (h : a = b) : Ending.returned (.bool a) = .returned (.bool b) := by rw [h]

theorem drawn_twice (w : World) (a b : Nat) : ∃ q, (w.drewN a).drewN b = w.drewN q := ⟨a + b, by rw [World.drewN_drewN]⟩

theorem equal_len (a1 a2 : Option Addr) (n m c1 c2 : Nat) (hne : n ≠ m) (w : World) :
    Calls Tryf.prog 27 #[.slice a1 n c1, .slice a2 m c2] w fun e w' => e = .returned (.bool false) ∧ w' = w := by
  have hb : ((n : Int) != (m : Int)) = true := by simp; omega
  go_enter Tryf.func27, Tryf.ntmps27
  go_wp2
  go_ret
  exact ⟨rfl, rfl⟩

theorem equal_zero (a1 a2 : Option Addr) (c1 c2 : Nat) (w : World) :
    Calls Tryf.prog 27 #[.slice a1 0 c1, .slice a2 0 c2] w fun e w' => e = .returned (.bool true) ∧ w' = w := by
  go_enter Tryf.func27, Tryf.ntmps27
  go_wp2
  refine wp_loop_rounds 1 ?_
  rw [rounds_succ]
  go_wp2
  go_ret
  exact ⟨rfl, rfl⟩

theorem take_next {l m : List Int} {k : Nat} (hl : k < l.length) (hm : k < m.length) (h : l.take k = m.take k) (hx : l.getD k 0 = m.getD k 0) : l.take (k + 1) = m.take (k + 1) := by
  rw [List.take_add_one, List.take_add_one, h]
  rw [List.getD_eq_getElem?_getD, List.getD_eq_getElem?_getD, List.getElem?_eq_getElem hl, List.getElem?_eq_getElem hm] at hx
  rw [List.getElem?_eq_getElem hl, List.getElem?_eq_getElem hm]
  simp only [Option.getD_some] at hx
  rw [hx]

set_option maxHeartbeats 400000 in
theorem equal_at (b1 o1 b2 o2 n c1 c2 : Nat) (l m : List Int) (w : World) (hn : n ≤ 1048600) (hl : l.length = n) (hm : m.length = n)
    (h1 : ∀ i, i < n → w.cell? ⟨b1, o1 + i, none⟩ = some (.int .u8 (l.getD i 0))) (h2 : ∀ i, i < n → w.cell? ⟨b2, o2 + i, none⟩ = some (.int .u8 (m.getD i 0))) :
    Calls Tryf.prog 27 #[.slice (some ⟨b1, o1, none⟩) n c1, .slice (some ⟨b2, o2, none⟩) n c2] w fun e w' => e = .returned (.bool (l == m)) ∧ ∃ q, w' = w.drewN q := by
  have hnn : ((n : Int) != (n : Int)) = false := by simp
  have H1 : Hid (∀ i, i < n → w.cell? ⟨b1, o1 + i, none⟩ = some (.int .u8 (l.getD i 0))) := h1
  have H2 : Hid (∀ i, i < n → w.cell? ⟨b2, o2 + i, none⟩ = some (.int .u8 (m.getD i 0))) := h2
  have HL : Hid (l.length = n ∧ m.length = n) := ⟨hl, hm⟩
  clear h1 h2 hl hm
  go_enter Tryf.func27, Tryf.ntmps27
  go_wp2
  go_loopw [5] (fun i wr => ∃ k q : Nat, k ≤ n ∧ i = .int .i64 k ∧ wr = w.drewN q ∧ l.take k = m.take k) (fun i _ => n - (intOf i).toNat)
  case atStart => exact ⟨0, 0, Nat.zero_le _, rfl, rfl, rfl⟩
  case round =>
    obtain ⟨k, q, hk, rfl, rfl, hlm⟩ := hrel
    have HLM : Hid (l.take k = m.take k) := hlm
    clear hlm
    by_cases hlt : k < n
    · have g1 := H1.out k hlt
      have g2 := H2.out k hlt
      obtain ⟨x, hx⟩ : ∃ x, x = l.getD k 0 := ⟨_, rfl⟩
      obtain ⟨y, hy⟩ : ∃ y, y = m.getD k 0 := ⟨_, rfl⟩
      rw [← hx] at g1
      rw [← hy] at g2
      have HX : Hid (x = l.getD k 0) := hx
      have HY : Hid (y = m.getD k 0) := hy
      clear hx hy
      have hk1 : (k : Int) < (n : Int) := by omega
      have hk0 : (0 : Int) ≤ (k : Int) := by omega
      by_cases hxy : x = y
      · have hne : (x != y) = false := by simp [hxy]
        have HN : Hid (l.take (k + 1) = m.take (k + 1)) := take_next (by rw [HL.out.1]; exact hlt) (by rw [HL.out.2]; exact hlt) HLM.out (by rw [← HX.out, ← HY.out, hxy])
        clear hxy
        go_wp2
        go_quiet (fail)
        go_wp2
        go_roundw
        case rel => exact ⟨k + 1, _, by omega, by go_num, rfl, HN.out⟩
        case measure => simp [intOf]; omega
      · have hne : (x != y) = true := by simp [hxy]
        have HF : Hid ((l == m) = false) := by
          apply beq_eq_false_iff_ne.2
          intro e
          exact hxy (by rw [HX.out, HY.out, e])
        clear hxy
        go_wp2
        go_quiet (fail)
        go_wp2
        go_ret
        exact ⟨bool_ret HF.out.symm, drawn_twice _ _ _⟩
    · have HF : Hid ((l == m) = true) := by
        apply beq_iff_eq.2
        have h := HLM.out
        rw [List.take_of_length_le (by rw [HL.out.1]; omega), List.take_of_length_le (by rw [HL.out.2]; omega)] at h
        exact h
      go_wp2
      go_ret
      exact ⟨bool_ret HF.out.symm, _, rfl⟩

/-- zzBytesEqual at every two slices. -/
theorem equal_any (a1 a2 : Option Addr) (n m c1 c2 : Nat) (l r : List Int) (w : World) (hn : n ≤ 1048600) (h1 : Seg w a1 n l) (h2 : Seg w a2 m r) :
    Calls Tryf.prog 27 #[.slice a1 n c1, .slice a2 m c2] w fun e w' => e = .returned (.bool (l == r)) ∧ ∃ q, w' = w.drewN q := by
  obtain ⟨k1, k2, k3⟩ := h1
  obtain ⟨m1, m2, m3⟩ := h2
  by_cases hnm : n = m
  · subst hnm
    by_cases h0 : n = 0
    · subst h0
      refine (equal_zero a1 a2 c1 c2 w).mono ?_
      rintro e w' ⟨rfl, rfl⟩
      rw [List.length_eq_zero_iff.1 k1, List.length_eq_zero_iff.1 m1]
      exact ⟨rfl, 0, rfl⟩
    · rcases k3 with k3 | ⟨b1, o1, rfl, _, g1⟩
      · exact absurd k3 h0
      · rcases m3 with m3 | ⟨b2, o2, rfl, _, g2⟩
        · exact absurd m3 h0
        · exact equal_at b1 o1 b2 o2 n c1 c2 l r w hn k1 m1 g1 g2
  · refine (equal_len a1 a2 n m c1 c2 hnm w).mono ?_
    rintro e w' ⟨rfl, rfl⟩
    refine ⟨bool_ret (beq_eq_false_iff_ne.2 ?_).symm, 0, rfl⟩
    intro e
    rw [e] at k1
    clear k3 m3
    omega

end Go.Proofs.Qxb6615960aFmt
