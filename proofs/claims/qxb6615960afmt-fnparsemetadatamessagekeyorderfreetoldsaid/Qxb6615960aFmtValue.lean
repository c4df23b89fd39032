/-
  The walk of (*decoder).value (32) at an integer and at a string.
-/
import Derived.Test.Qxb6615960aFmtStr
namespace Go.Proofs.Qxb6615960aFmt
open Go.RowKit Go.Extern.Stop Go.Stop Go.Extern

set_option maxRecDepth 100000 in
set_option maxHeartbeats 400000 in
theorem value_int (D B n c : Nat) (l : List Int) (p q : Nat) (ok : Prop) (v depth : Int) (w : World) (hd : Dec w D B n c l p) (hi : l.getD p 0 = 105) (hp : p < n)
    (hcall : ∀ k, Calls Tryf.prog 38 #[.pointer (some ⟨D, 0, none⟩)] (w.drewN k) fun e w' => Got (w.drewN k) w' D B n c l q ok (.int .i64 v) (.int .i64 0) e) :
    Calls Tryf.prog 32 #[.pointer (some ⟨D, 0, none⟩), .int .i64 depth] w fun e w' => Got w w' D B n c l q ok (.iface 2 (.int .i64 v)) (.iface 2 (.int .i64 0)) e := by
  have HC : Hid (∀ k, Calls Tryf.prog 38 #[.pointer (some ⟨D, 0, none⟩)] (w.drewN k) fun e w' => Got (w.drewN k) w' D B n c l q ok (.int .i64 v) (.int .i64 0) e) := hcall
  obtain ⟨hc0, hc1, hf, hBD, hll, hnc, hby, hcell⟩ := hd
  have hb := hcell p hp
  rw [hi] at hb
  have hge : decide ((n : Int) ≤ (p : Int)) = false := by simp; omega
  clear hcell hby hll hi hcall
  go_enter Tryf.func32, Tryf.ntmps32
  go_wp2
  go_quiet (fail)
  go_wp2
  go_quiet (fail)
  go_wp2_with fail
  refine (HC.out _).mono ?_
  rintro e w1 ⟨hg, ⟨ho, rfl, hd1⟩ | ⟨ho, g, s, rfl, hs⟩⟩
  · have HG : Hid (w.grownBy w1 (some D)) := World.grownBy.trans (grown_drewN (grown_refl _ _) _) hg
    have HD : Hid (Dec w1 D B n c l q) := hd1
    have HO : Hid ok := ho
    clear hg hd1 ho hc0 hc1 hf hb
    go_wp2
    go_ret2
    exact ⟨HG.out, .inl ⟨HO.out, rfl, HD.out⟩⟩
  · have HG : Hid (w.grownBy w1 (some D)) := World.grownBy.trans (grown_drewN (grown_refl _ _) _) hg
    have HO : Hid (¬ ok) := ho
    have HS : Hid (w1.cell? ⟨g, 0, none⟩ = some (.string s)) := hs
    clear hg ho hc0 hc1 hf hb hs
    go_wp2
    go_ret2
    exact ⟨HG.out, .inr ⟨HO.out, g, s, rfl, HS.out⟩⟩

set_option maxRecDepth 100000 in
set_option maxHeartbeats 400000 in
theorem value_str (F : Interp) (D B n c : Nat) (l : List Int) (p u : Nat) (depth : Int) (w : World) (hF : F.answers w.tape) (hd : Dec w D B n c l p)
    (htxt : ∀ j, j < nd u → l.getD (p + j) 0 = 48 + (dg u j : Nat)) (hend : l.getD (p + nd u) 0 = 58) (hfit : p + nd u + 1 + u < n) (hn : n ≤ 1000000000000) :
    Calls Tryf.prog 32 #[.pointer (some ⟨D, 0, none⟩), .int .i64 depth] w fun e w' => Got w w' D B n c l (p + nd u + 1 + u) True (.iface 9 (.string (strOfNums (part l (p + nd u + 1) u)))) (.iface 9 (.string ⟨#[]⟩)) e := by
  have HT : Hid (∀ j, j < nd u → l.getD (p + j) 0 = 48 + (dg u j : Nat)) := htxt
  have HE : Hid (l.getD (p + nd u) 0 = 58) := hend
  have HD : Hid (Dec w D B n c l p) := hd
  have hnd := nd_pos u
  have hp : p < n := by omega
  obtain ⟨hc0, hc1, hf, hBD, hll, hnc, hby, hcell⟩ := hd
  have hb := hcell p hp
  have h0 : l.getD p 0 = 48 + ((dg u 0 : Nat) : Int) := HT.out 0 hnd
  rw [h0] at hb
  have hlt10 := dg_lt u 0
  obtain ⟨x, hx⟩ : ∃ x : Int, x = 48 + ((dg u 0 : Nat) : Int) := ⟨_, rfl⟩
  rw [← hx] at hb
  have hx1 : (x == 105) = false := by simp; omega
  have hx2 : decide (48 ≤ x) = true := by simp; omega
  have hx3 : decide (x ≤ 57) = true := by simp; omega
  have hge : decide ((n : Int) ≤ (p : Int)) = false := by simp; omega
  clear hcell hby hll htxt hend hx h0 hlt10
  go_enter Tryf.func32, Tryf.ntmps32
  go_wp2
  go_quiet (fail)
  go_wp2
  go_quiet (fail)
  go_wp2_with fail
  refine (str_any F D B n c l p u _ (answers_grown hF (grown_drewN (grown_refl _ none) _)) (HD.out.drewN _) HT.out HE.out hfit hn).mono ?_
  rintro e w1 ⟨hg, rfl, hd1⟩
  have HG : Hid (w.grownBy w1 (some D)) := World.grownBy.trans (grown_drewN (grown_refl _ _) _) hg
  have HD : Hid (Dec w1 D B n c l (p + nd u + 1 + u)) := hd1
  clear hg hd1 hc0 hc1 hf hb
  go_wp2
  go_ret2
  exact ⟨HG.out, .inl ⟨trivial, rfl, HD.out⟩⟩
end Go.Proofs.Qxb6615960aFmt
