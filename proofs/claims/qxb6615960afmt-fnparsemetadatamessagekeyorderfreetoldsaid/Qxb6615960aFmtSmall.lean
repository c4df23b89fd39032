/-
  The walks of the bound (12), zzZeroMsg (10), zzMsgIs (11).
-/
import Derived.Test.Qxb6615960aFmtEqual
import Derived.Test.Qxb6615960aFmtErr
namespace Go.Proofs.Qxb6615960aFmt
open Go.RowKit Go.WideShapes

/-- A question answered; nothing turned. -/
def Told2 (w w' : World) (e : Ending) : Prop := w = w' ∧ ∃ b, e = .returned (.bool b)

set_option maxRecDepth 100000 in
theorem bytes_any (t piece size : Int) (ws : Bool) (a1 a2 : Option Addr) (n m c1 c2 : Nat) (w : World) (hn : n ≤ 9223372036854775807) (hm : m ≤ 9223372036854775807) :
    Calls Tryf.prog 12 #[.int .i64 t, .int .i64 piece, .int .i64 size, .bool ws, .slice a1 n c1, .slice a2 m c2] w fun e w' => Told2 w w' e := by
  obtain ⟨x, hx⟩ : ∃ x : Int, x = (n : Int) := ⟨_, rfl⟩
  obtain ⟨y, hy⟩ : ∃ y : Int, y = (m : Int) := ⟨_, rfl⟩
  have hx0 : 0 ≤ x := by omega
  have hy0 : 0 ≤ y := by omega
  by_cases h1 : 1048576 < x
  · have hd1 : decide (1048576 < (n : Int)) = true := by simp; omega
    clear hx hy hx0 hy0 h1
    go_enter Tryf.func12, Tryf.ntmps12
    go_wp2
    go_ret
    exact ⟨rfl, _, rfl⟩
  · have hd1 : decide (1048576 < (n : Int)) = false := by simp; omega
    by_cases h2 : 1048576 < y
    · have hd2 : decide (1048576 < (m : Int)) = true := by simp; omega
      have hw : n ≤ 1048576 := by omega
      clear hx hy hx0 hy0 h1 h2
      go_enter Tryf.func12, Tryf.ntmps12
      go_wp2
      go_ret
      exact ⟨rfl, _, rfl⟩
    · have hd2 : decide (1048576 < (m : Int)) = false := by simp; omega
      have hw : n ≤ 1048576 := by omega
      have hw2 : m ≤ 1048576 := by omega
      by_cases h3 : 1048576 < x + y
      · have hd3 : decide (1048576 < (n : Int) + (m : Int)) = true := by simp; omega
        clear hx hy hx0 hy0 h1 h2 h3
        go_enter Tryf.func12, Tryf.ntmps12
        go_wp2
        go_ret
        exact ⟨rfl, _, rfl⟩
      · have hd3 : decide (1048576 < (n : Int) + (m : Int)) = false := by simp; omega
        clear hx hy hx0 hy0 h1 h2 h3
        go_enter Tryf.func12, Tryf.ntmps12
        go_wp2
        go_ret
        exact ⟨rfl, _, rfl⟩

set_option maxRecDepth 100000 in
theorem zero_any (w : World) :
    Calls Tryf.prog 10 #[.agg #[.int .i64 0, .int .i64 0, .int .i64 0, .slice none 0 0]] w fun e w' => e = .returned (.bool true) ∧ w.grownBy w' none := by
  have hnil := fun (w : World) => Lib.run_eql_slice_nil (P := Tryf.prog) w 22 5 none 0 0 0 0 Tryf.underlying22
  go_enter Tryf.func10, Tryf.ntmps10
  go_wp2
  go_ret
  exact ⟨rfl, grown_alloc (grown_refl w none) _⟩

set_option maxRecDepth 100000 in
theorem msg_other (t piece size : Int) (d : Value) (ht : t ≠ 1) (w : World) :
    Calls Tryf.prog 11 #[.agg #[.int .i64 t, .int .i64 piece, .int .i64 0, .slice none 0 0], .int .i64 t, .int .i64 piece, .int .i64 size, d] w fun e w' => e = .returned (.bool true) ∧ w.grownBy w' none := by
  have hnil := fun (w : World) => Lib.run_eql_slice_nil (P := Tryf.prog) w 22 5 none 0 0 0 0 Tryf.underlying22
  have h1 : (t != t) = false := by simp
  have h2 : (piece != piece) = false := by simp
  have h3 : (t != 1) = true := by simp [ht]
  go_enter Tryf.func11, Tryf.ntmps11
  go_wp2
  go_ret
  exact ⟨rfl, grown_alloc (grown_refl w none) _⟩

set_option maxRecDepth 100000 in
theorem msg_data (piece size : Int) (a a2 : Option Addr) (m cc c2 : Nat) (l : List Int) (w : World) (hm : m ≤ 1048600) (h1 : ∀ w', w.grownBy w' none → Seg w' a m l) (h2 : ∀ w', w.grownBy w' none → Seg w' a2 m l) :
    Calls Tryf.prog 11 #[.agg #[.int .i64 1, .int .i64 piece, .int .i64 size, .slice a m cc], .int .i64 1, .int .i64 piece, .int .i64 size, .slice a2 m c2] w fun e w' => e = .returned (.bool true) ∧ w.grownBy w' none := by
  have hp : (piece != piece) = false := by simp
  have hs : (size == size) = true := by simp
  have H1 : Hid (∀ w', w.grownBy w' none → Seg w' a m l) := h1
  have H2 : Hid (∀ w', w.grownBy w' none → Seg w' a2 m l) := h2
  clear h1 h2
  go_enter Tryf.func11, Tryf.ntmps11
  go_wp2_with fail
  refine (equal_any a a2 m m cc c2 l l _ hm (H1.out _ (grown_alloc (grown_refl w none) _)) (H2.out _ (grown_alloc (grown_refl w none) _))).mono ?_
  rintro e w1 ⟨rfl, q, rfl⟩
  have hll : (l == l) = true := by simp
  rw [hll]
  go_wp2
  go_ret
  exact ⟨rfl, grown_drewN (grown_alloc (grown_refl w none) _) _⟩

theorem msg_data' (t piece size : Int) (ht : t = 1) (a a2 : Option Addr) (m cc c2 : Nat) (l : List Int) (w : World) (hm : m ≤ 1048600) (h1 : ∀ w', w.grownBy w' none → Seg w' a m l) (h2 : ∀ w', w.grownBy w' none → Seg w' a2 m l) :
    Calls Tryf.prog 11 #[.agg #[.int .i64 t, .int .i64 piece, .int .i64 size, .slice a m cc], .int .i64 t, .int .i64 piece, .int .i64 size, .slice a2 m c2] w fun e w' => e = .returned (.bool true) ∧ w.grownBy w' none := by
  subst ht
  exact msg_data piece size a a2 m cc c2 l w hm h1 h2
end Go.Proofs.Qxb6615960aFmt
