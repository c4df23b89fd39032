/-
  What a walk is told of a slice of pairs of strings; the walks of zzBytes_FnEndsCutAnywhereAgrees (4) and zzEndsBytesFit (5).
-/
import Derived.Test.Qxb6616063aProg
import Derived.WalkKit
import Derived.ProofKit
import Derived.Below
namespace Go.Proofs.Qxb6616063a
open Go.RowKit Go.WideShapes

/-- From offset off of block b on there lie n pairs of strings. -/
def Pairs (w : World) (b off n : Nat) (R S : Nat → ByteArray) : Prop :=
  ∀ i, i < n → w.cell? ⟨b, off + i * 2, none⟩ = some (.string (R i)) ∧ w.cell? ⟨b, off + i * 2 + 1, none⟩ = some (.string (S i))

/-- A bool comes back, nothing has turned; and if it is true, p. -/
def Asked (w : World) (p : Prop) (e : Ending) (w' : World) : Prop := ∃ q, e = .returned (.bool q) ∧ w = w' ∧ (q = true → p)
theorem asked_no (w : World) (p : Prop) : Asked w p (.returned (.bool false)) w := ⟨false, rfl, rfl, fun h => by cases h⟩
theorem asked_yes (w : World) {p : Prop} (h : p) : Asked w p (.returned (.bool true)) w := ⟨true, rfl, rfl, fun _ => h⟩

set_option maxHeartbeats 1000000 in
theorem bytes_at (r s : ByteArray) (b off n c : Nat) (R S : Nat → ByteArray) (k i1 i2 i3 i4 : Int) (w : World) (hr : r.size ≤ 9223372036854775807) (hs : s.size ≤ 9223372036854775807) (hn : n ≤ 9223372036854775807)
    (hp : Pairs w b off n R S) (hz : ∀ i, i < n → (R i).size ≤ 9223372036854775807 ∧ (S i).size ≤ 9223372036854775807) :
    Calls Try.prog 4 #[.string r, .string s, .slice (some ⟨b, off, none⟩) n c, .int .i64 k, .int .i64 i1, .int .i64 i2, .int .i64 i3, .int .i64 i4] w
      (Asked w (r.size ≤ 1048576 ∧ s.size ≤ 1048576 ∧ n ≤ 1048576 ∧ ∀ i, i < n → (R i).size ≤ 1048576 ∧ (S i).size ≤ 1048576)) := by
  have HP : Hid (Pairs w b off n R S) := hp
  have HZ : Hid (∀ i, i < n → (R i).size ≤ 9223372036854775807 ∧ (S i).size ≤ 9223372036854775807) := hz
  clear hp hz
  by_cases c1 : (r.size : Int) ≤ 1048576
  · by_cases c2 : (s.size : Int) ≤ 1048576
    · by_cases c3 : (r.size : Int) + (s.size : Int) ≤ 1048576
      · by_cases c4 : (n : Int) ≤ 1048576
        · by_cases c5 : (r.size : Int) + (s.size : Int) + (n : Int) ≤ 1048576
          · go_enter Try.func4, Try.ntmps4
            go_wp2
            go_loop [17, 18] (fun z i => ∃ j t : Nat, j ≤ n ∧ i = .int .i64 j ∧ z = .int .i64 t ∧ t ≤ 1048576 ∧ ∀ m, m < j → (R m).size ≤ 1048576 ∧ (S m).size ≤ 1048576) (fun _ i => n - (intOf i).toNat)
            case atStart => exact ⟨0, r.size + s.size + n, by omega, rfl, by go_num, by omega, fun m hm => by omega⟩
            case round =>
              obtain ⟨j, t, hj, rfl, rfl, ht, hall⟩ := hrel
              have HALL : Hid (∀ m, m < j → (R m).size ≤ 1048576 ∧ (S m).size ≤ 1048576) := hall
              clear hall
              by_cases hlt : j < n
              · obtain ⟨g1, g2⟩ := HP.out j hlt
                obtain ⟨z1, z2⟩ := HZ.out j hlt
                obtain ⟨x, hx⟩ : ∃ x, x = R j := ⟨_, rfl⟩
                obtain ⟨y, hy⟩ : ∃ y, y = S j := ⟨_, rfl⟩
                rw [← hx] at g1 z1
                rw [← hy] at g2 z2
                have HXY : Hid (x = R j ∧ y = S j) := ⟨hx, hy⟩
                clear hx hy
                go_wp2
                all_goals first
                  | (go_ret; exact asked_no _ _)
                  | (go_round
                     case rel => exact ⟨j + 1, t + x.size + y.size, by omega, by go_num, by go_num, by omega, fun m hm => by
                       by_cases e : m = j
                       · subst e; rw [← HXY.out.1, ← HXY.out.2]; omega
                       · exact HALL.out m (by omega)⟩
                     case measure => simp [intOf]; omega)
              · go_wp2
                go_ret
                exact asked_yes _ ⟨by omega, by omega, by omega, fun i hi => HALL.out i (by omega)⟩
          · go_enter Try.func4, Try.ntmps4
            go_wp2
            go_ret
            exact asked_no _ _
        · go_enter Try.func4, Try.ntmps4
          go_wp2
          go_ret
          exact asked_no _ _
      · go_enter Try.func4, Try.ntmps4
        go_wp2
        go_ret
        exact asked_no _ _
    · go_enter Try.func4, Try.ntmps4
      go_wp2
      go_ret
      exact asked_no _ _
  · go_enter Try.func4, Try.ntmps4
    go_wp2
    go_ret
    exact asked_no _ _

set_option maxHeartbeats 1000000 in
theorem bytes_zero (r s : ByteArray) (a : Option Addr) (c : Nat) (k i1 i2 i3 i4 : Int) (w : World) (hr : r.size ≤ 9223372036854775807) (hs : s.size ≤ 9223372036854775807) :
    Calls Try.prog 4 #[.string r, .string s, .slice a 0 c, .int .i64 k, .int .i64 i1, .int .i64 i2, .int .i64 i3, .int .i64 i4] w
      (Asked w (r.size ≤ 1048576 ∧ s.size ≤ 1048576)) := by
  by_cases c1 : (r.size : Int) ≤ 1048576
  · by_cases c2 : (s.size : Int) ≤ 1048576
    · by_cases c3 : (r.size : Int) + (s.size : Int) ≤ 1048576
      · go_enter Try.func4, Try.ntmps4
        go_wp2
        refine wp_loop_rounds 1 ?_
        rw [rounds_succ]
        go_wp2
        go_ret
        exact asked_yes _ ⟨by omega, by omega⟩
      · go_enter Try.func4, Try.ntmps4
        go_wp2
        go_ret
        exact asked_no _ _
    · go_enter Try.func4, Try.ntmps4
      go_wp2
      go_ret
      exact asked_no _ _
  · go_enter Try.func4, Try.ntmps4
    go_wp2
    go_ret
    exact asked_no _ _

set_option maxHeartbeats 1000000 in
set_option maxRecDepth 100000 in
theorem fit_at (r s : ByteArray) (b off n c : Nat) (R S : Nat → ByteArray) (w : World) (hr : r.size ≤ 1048576) (hs : s.size ≤ 1048576) (hn : n ≤ 1048576)
    (hp : Pairs w b off n R S) (hz : ∀ i, i < n → (R i).size ≤ 1048576 ∧ (S i).size ≤ 1048576) :
    Calls Try.prog 5 #[.string r, .string s, .slice (some ⟨b, off, none⟩) n c] w (Asked w True) := by
  have HP : Hid (Pairs w b off n R S) := hp
  have HZ : Hid (∀ i, i < n → (R i).size ≤ 1048576 ∧ (S i).size ≤ 1048576) := hz
  clear hp hz
  have c1 : (r.size : Int) ≤ 1048576 := by omega
  have c2 : (s.size : Int) ≤ 1048576 := by omega
  have cn : (n : Int) ≤ 1048576 := by omega
  clear hr hs hn
  by_cases c3 : (r.size : Int) + (s.size : Int) ≤ 1048576
  · go_enter Try.func5, Try.ntmps5
    go_wp2
    go_loop [7, 8] (fun z i => ∃ (j : Nat) (t : Int), j ≤ n ∧ i = .int .i64 j ∧ z = .int .i64 t ∧ 0 ≤ t ∧ t ≤ 1048576) (fun _ i => n - (intOf i).toNat)
    case atStart => exact ⟨0, (r.size : Int) + (s.size : Int), by omega, rfl, rfl, by omega, by omega⟩
    case round =>
      obtain ⟨j, t, hj, rfl, rfl, ht0, ht⟩ := hrel
      by_cases hlt : j < n
      · obtain ⟨g1, g2⟩ := HP.out j hlt
        obtain ⟨z1, z2⟩ := HZ.out j hlt
        obtain ⟨x, hx⟩ : ∃ x, x = R j := ⟨_, rfl⟩
        obtain ⟨y, hy⟩ : ∃ y, y = S j := ⟨_, rfl⟩
        rw [← hx] at g1 z1
        rw [← hy] at g2 z2
        have z1' : (x.size : Int) ≤ 1048576 := by omega
        have z2' : (y.size : Int) ≤ 1048576 := by omega
        clear hx hy z1 z2
        go_wp2
        all_goals first
          | (go_ret; exact asked_no _ _)
          | (go_round
             case rel => exact ⟨j + 1, t + 32 + (x.size : Int) + (y.size : Int), by omega, by go_num, rfl, by omega, by omega⟩
             case measure => simp [intOf]; omega)
      · go_wp2
        go_ret
        exact asked_yes _ trivial
  · go_enter Try.func5, Try.ntmps5
    go_wp2
    go_ret
    exact asked_no _ _

theorem fit_zero (r s : ByteArray) (a : Option Addr) (c : Nat) (w : World) (hr : r.size ≤ 1048576) (hs : s.size ≤ 1048576) :
    Calls Try.prog 5 #[.string r, .string s, .slice a 0 c] w (Asked w True) := by
  have c1 : (r.size : Int) ≤ 1048576 := by omega
  by_cases c3 : (r.size : Int) + (s.size : Int) ≤ 1048576
  · go_enter Try.func5, Try.ntmps5
    go_wp2
    refine wp_loop_rounds 1 ?_
    rw [rounds_succ]
    go_wp2
    go_ret
    exact asked_yes _ trivial
  · go_enter Try.func5, Try.ntmps5
    go_wp2
    go_ret
    exact asked_no _ _
end Go.Proofs.Qxb6616063a
