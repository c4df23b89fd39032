/-
  The walk of (*decoder).integer (38).
-/
import Derived.Test.Qxb6615960aFmtDigits
namespace Go.Proofs.Qxb6615960aFmt
open Go.RowKit Go.Extern.Stop Go.Stop Go.Extern

/-- What a reader of the decoder leaves: a value and the place behind it; or an error. -/
def Got (w w' : World) (D B n c : Nat) (l : List Int) (q : Nat) (ok : Prop) (v z : Value) (e : Ending) : Prop :=
  w.grownBy w' (some D) ∧ ((ok ∧ e = .returned (.tuple #[v, .nilIface]) ∧ Dec w' D B n c l q) ∨ (¬ ok ∧ ∃ g s, e = .returned (.tuple #[z, .iface 99 (.pointer (some ⟨g, 0, none⟩))]) ∧ w'.cell? ⟨g, 0, none⟩ = some (.string s)))

set_option maxRecDepth 100000 in
set_option maxHeartbeats 400000 in
theorem integer_pos (F : Interp) (D B n c : Nat) (l : List Int) (p u : Nat) (w : World) (hF : F.answers w.tape) (hd : Dec w D B n c l p)
    (htxt : ∀ j, j < nd u → l.getD (p + 1 + j) 0 = 48 + (dg u j : Nat)) (hend : l.getD (p + 1 + nd u) 0 = 101) (hfit : p + 1 + nd u < n) (hn : n ≤ 1000000000000) (hu : u < 9223372036854775808) :
    Calls Tryf.prog 38 #[.pointer (some ⟨D, 0, none⟩)] w fun e w' => Got w w' D B n c l (p + 1 + nd u + 1) True (.int .i64 u) (.int .i64 0) e := by
  have HT : Hid (∀ j, j < nd u → l.getD (p + 1 + j) 0 = 48 + (dg u j : Nat)) := htxt
  have HE : Hid (l.getD (p + 1 + nd u) 0 = 101) := hend
  have HD : Hid (Dec w D B n c l p) := hd
  have hc1 := hd.2.1
  have hf := hd.2.2.1
  clear htxt hend hd
  have hnd := nd_pos u
  go_enter Tryf.func38, Tryf.ntmps38
  go_wp2
  have e1 : ((p : Nat) : Int) + 1 = ((p + 1 : Nat) : Int) := by omega
  rw [e1]
  have HG1 : Hid (w.grownBy (w.setCell ⟨D, 1, none⟩ (.int .i64 ((p + 1 : Nat) : Int))) (some D)) := grown_set (grown_refl _ _) _ _
  have HD1 : Hid (Dec (w.setCell ⟨D, 1, none⟩ (.int .i64 ((p + 1 : Nat) : Int))) D B n c l (p + 1)) := HD.out.set _
  generalize w.setCell ⟨D, 1, none⟩ (.int .i64 ((p + 1 : Nat) : Int)) = w1 at HG1 HD1 ⊢
  clear hc1 hf
  obtain ⟨q, hq⟩ : ∃ q, q = p + 1 := ⟨_, rfl⟩
  rw [← hq] at HT HE HD1 hfit ⊢
  have HQ : Hid (q = p + 1) := hq
  clear e1 hq
  obtain ⟨hc0, hc1, hf, hBD, hll, hnc, hby, hcell⟩ := HD1.out
  have hb := hcell q (by omega)
  have hq0 : l.getD q 0 = 48 + ((dg u 0 : Nat) : Int) := HT.out 0 hnd
  rw [hq0] at hb
  have hlt10 := dg_lt u 0
  obtain ⟨x, hx⟩ : ∃ x : Int, x = 48 + ((dg u 0 : Nat) : Int) := ⟨_, rfl⟩
  rw [← hx] at hb
  have hx45 : (x == 45) = false := by simp; omega
  have hd0 : decide (((q : Nat) : Int) < (n : Int)) = true := by simp; omega
  have hqn : q < n := by omega
  clear hcell hby hll hq0 hx hlt10 hnd
  go_quiet (fail)
  go_wp2_with fail
  refine (digits_any F _ _ 101 D B n c l q u _ (answers_grown hF (grown_drewN HG1.out _)) (HD1.out.drewN _) HT.out HE.out (.inl rfl) hfit hn (by omega)).mono ?_
  rintro e w2 ⟨hg2, ⟨hu2, rfl, hd2⟩ | ⟨hu2, _⟩⟩
  · have HG2 : Hid (w.grownBy w2 (some D)) := HG1.out.trans (World.grownBy.trans (grown_drewN (grown_refl _ _) _) hg2)
    have HD2 : Hid (Dec w2 D B n c l (q + nd u + 1)) := hd2
    clear hg2 hd2 hc0 hc1 hf
    go_wp2
    go_ret2
    exact ⟨HG2.out, .inl ⟨trivial, rfl, HQ.out ▸ HD2.out⟩⟩
  · omega

set_option maxRecDepth 100000 in
set_option maxHeartbeats 400000 in
theorem integer_neg (F : Interp) (D B n c : Nat) (l : List Int) (p u : Nat) (w : World) (hF : F.answers w.tape) (hd : Dec w D B n c l p) (hs : l.getD (p + 1) 0 = 45)
    (htxt : ∀ j, j < nd u → l.getD (p + 2 + j) 0 = 48 + (dg u j : Nat)) (hend : l.getD (p + 2 + nd u) 0 = 101) (hfit : p + 2 + nd u < n) (hn : n ≤ 1000000000000) (hu0 : 1 ≤ u) (hu : u ≤ 9223372036854775808) :
    Calls Tryf.prog 38 #[.pointer (some ⟨D, 0, none⟩)] w fun e w' => Got w w' D B n c l (p + 2 + nd u + 1) (u < 9223372036854775808) (.int .i64 (-(u : Int))) (.int .i64 0) e := by
  have HT : Hid (∀ j, j < nd u → l.getD (p + 2 + j) 0 = 48 + (dg u j : Nat)) := htxt
  have HE : Hid (l.getD (p + 2 + nd u) 0 = 101) := hend
  have HD : Hid (Dec w D B n c l p) := hd
  have hc1 := hd.2.1
  have hf := hd.2.2.1
  clear htxt hend hd
  go_enter Tryf.func38, Tryf.ntmps38
  go_wp2
  have e1 : ((p : Nat) : Int) + 1 = ((p + 1 : Nat) : Int) := by omega
  rw [e1]
  have HG1 : Hid (w.grownBy (w.setCell ⟨D, 1, none⟩ (.int .i64 ((p + 1 : Nat) : Int))) (some D)) := grown_set (grown_refl _ _) _ _
  have HD1 : Hid (Dec (w.setCell ⟨D, 1, none⟩ (.int .i64 ((p + 1 : Nat) : Int))) D B n c l (p + 1)) := HD.out.set _
  generalize w.setCell ⟨D, 1, none⟩ (.int .i64 ((p + 1 : Nat) : Int)) = w1 at HG1 HD1 ⊢
  clear hc1 hf
  obtain ⟨q, hq⟩ : ∃ q, q = p + 1 := ⟨_, rfl⟩
  obtain ⟨r, hr⟩ : ∃ r, r = p + 2 := ⟨_, rfl⟩
  have HR : Hid (r = q + 1) := by show r = q + 1; omega
  rw [← hq] at HD1 hs
  rw [← hr] at HT HE hfit
  have HQ : Hid (r = p + 2) := hr
  have hqn : q < n := by omega
  clear e1 hq hr
  obtain ⟨hc0, hc1, hf, hBD, hll, hnc, hby, hcell⟩ := HD1.out
  have hb := hcell q hqn
  rw [hs] at hb
  have hd0 : decide (((q : Nat) : Int) < (n : Int)) = true := by simp; omega
  clear hcell hby hll hs
  go_quiet (fail)
  go_wp2_with fail
  have e1 : ((q : Nat) : Int) + 1 = ((r : Nat) : Int) := by have := HR.out; omega
  rw [e1]
  have HG2 : Hid (w.grownBy ((w1.drewN nq).setCell ⟨D, 1, none⟩ (.int .i64 (r : Int))) (some D)) := grown_set (grown_drewN HG1.out _) _ _
  have HD2 : Hid (Dec ((w1.drewN nq).setCell ⟨D, 1, none⟩ (.int .i64 (r : Int))) D B n c l r) := (HD1.out.drewN _).set _
  generalize (w1.drewN nq).setCell ⟨D, 1, none⟩ (.int .i64 (r : Int)) = w2 at HG2 HD2 ⊢
  clear hc0 hc1 hf hb
  refine (digits_any F _ _ 101 D B n c l r u _ (answers_grown hF HG2.out) HD2.out HT.out HE.out (.inl rfl) hfit hn hu).mono ?_
  rintro e w3 ⟨hg3, ⟨hu3, rfl, hd3⟩ | ⟨hu3, v, rfl, g, s, rfl, hcs⟩⟩
  · have HG3 : Hid (w.grownBy w3 (some D)) := HG2.out.trans hg3
    have HD3 : Hid (Dec w3 D B n c l (r + nd u + 1)) := hd3
    obtain ⟨x, hx⟩ : ∃ x : Int, x = (u : Int) := ⟨_, rfl⟩
    have HU : Hid (u < 9223372036854775808) := hu3
    have hx0 : (x == 0) = false := by simp; omega
    have hx1 : 1 ≤ x := by omega
    have hx2 : x ≤ 9223372036854775807 := by omega
    rw [← hx]
    have HX : Hid (x = (u : Int)) := hx
    clear hg3 hd3 hx hu3 hu hu0
    go_wp2
    go_ret2
    have hxe := HX.out
    subst hxe
    exact ⟨HG3.out, .inl ⟨HU.out, rfl, HQ.out ▸ HD3.out⟩⟩
  · have HG3 : Hid (w.grownBy w3 (some D)) := HG2.out.trans hg3
    have HC : Hid (w3.cell? ⟨g, 0, none⟩ = some (.string s)) := hcs
    clear hg3 hcs
    go_wp2
    go_ret2
    exact ⟨HG3.out, .inr ⟨by omega, g, s, rfl, HC.out⟩⟩
end Go.Proofs.Qxb6615960aFmt
