/-
  The walk of (*decoder).digits (43).
-/
import Derived.Test.Qxb6615960aFmtDec
import Derived.Maps.RangeWalk
namespace Go.Proofs.Qxb6615960aFmt
open Go.RowKit Go.Extern.Stop Go.Stop Go.Extern

/-- What digits leaves. -/
def Digits (w w' : World) (D B n c : Nat) (l : List Int) (q u : Nat) (e : Ending) : Prop :=
  w.grownBy w' (some D) ∧ ((u < 9223372036854775808 ∧ e = .returned (.tuple #[.int .i64 u, .nilIface]) ∧ Dec w' D B n c l q) ∨
    (u = 9223372036854775808 ∧ ∃ v, e = .returned (.tuple #[.int .i64 0, v]) ∧ Err w' v))

theorem digits_end {w wr : World} {D B n c : Nat} {l : List Int} {p q u k : Nat} (hg : w.grownBy wr (some D)) (hd : Dec wr D B n c l (p + nd u)) (hq : q = p + nd u) (hu : u < 9223372036854775808) :
    Digits w ((wr.drewN k).setCell ⟨D, 1, none⟩ (.int .i64 ((q : Int) + 1))) D B n c l (p + nd u + 1) u (.returned (.tuple #[.int .i64 ((pre u (nd u) : Nat) : Int), .nilIface])) := by
  have e : ((q : Nat) : Int) + 1 = ((p + nd u + 1 : Nat) : Int) := by omega
  rw [pre_full, e]
  exact ⟨grown_set (grown_drewN hg _) _ _, .inl ⟨hu, rfl, (hd.drewN k).set _⟩⟩

set_option maxRecDepth 100000 in
set_option maxHeartbeats 400000 in
theorem digits_any (F : Interp) (nm : ByteArray) (st E : Int) (D B n c : Nat) (l : List Int) (p u : Nat) (w : World) (hF : F.answers w.tape) (hd : Dec w D B n c l p)
    (htxt : ∀ j, j < nd u → l.getD (p + j) 0 = 48 + (dg u j : Nat)) (hend : l.getD (p + nd u) 0 = E) (hE : E = 101 ∨ E = 58) (hfit : p + nd u < n) (hn : n ≤ 1000000000000) (hu : u ≤ 9223372036854775808) :
    Calls Tryf.prog 43 #[.pointer (some ⟨D, 0, none⟩), .string nm, .int .i64 st, .int .u8 E] w fun e w' => Digits w w' D B n c l (p + nd u + 1) u e := by
  have HT : Hid (∀ j, j < nd u → l.getD (p + j) 0 = 48 + (dg u j : Nat)) := htxt
  have HE : Hid (l.getD (p + nd u) 0 = E) := hend
  have HD : Hid (Dec w D B n c l p) := hd
  have hc1 := hd.2.1
  clear htxt hend hd
  go_enter Tryf.func43, Tryf.ntmps43
  go_wp2
  clear hc1
  go_loopw [11] (fun v wr => ∃ j, j ≤ nd u ∧ v = .int .i64 (pre u j : Nat) ∧ Dec wr D B n c l (p + j) ∧ w.grownBy wr (some D) ∧ pre u j < 9223372036854775808) (fun _ wr => n - posOf wr D)
  case atStart => exact ⟨0, Nat.zero_le _, by rw [pre_zero]; rfl, HD.out, grown_refl _ _, by rw [pre_zero]; decide⟩
  case round =>
    obtain ⟨j, hj, rfl, hdr, hgr, hpj⟩ := hrel
    have HDR : Hid (Dec wr D B n c l (p + j)) := hdr
    have HGR : Hid (w.grownBy wr (some D)) := hgr
    clear hgr
    obtain ⟨hc0, hc1, hf, hBD, hll, hnc, hby, hcell⟩ := hdr
    have hq : p + j < n := by omega
    have hb := hcell (p + j) hq
    clear hcell hby hll
    have hd0 : decide (((p + j : Nat) : Int) < (n : Int)) = true := by simp; omega
    by_cases hlt : j < nd u
    · rw [HT.out j hlt] at hb
      obtain ⟨q, hqe⟩ : ∃ q, q = p + j := ⟨_, rfl⟩
      rw [← hqe] at hb hc1 hq hd0
      have HQ : Hid (q = p + j) := hqe
      clear hqe
      have hlt10 := dg_lt u j
      obtain ⟨x, hx⟩ : ∃ x : Int, x = 48 + ((dg u j : Nat) : Int) := ⟨_, rfl⟩
      rw [← hx] at hb
      have hx0 : 48 ≤ x := by omega
      have hx1 : x ≤ 57 := by omega
      have hl1 : decide (x < 48) = false := by simp; omega
      have hl2 : decide (57 < x) = false := by simp; omega
      have hne : (x != E) = true := by rcases hE with rfl | rfl <;> simp <;> omega
      have hshort := pre_short u hlt
      have hstep := pre_step u hlt
      obtain ⟨v, hv⟩ : ∃ v : Int, v = ((pre u j : Nat) : Int) := ⟨_, rfl⟩
      rw [← hv]
      have hv0 : 0 ≤ v := by omega
      have hv1 : v * 10 ≤ 9223372036854775808 := by omega
      have HX : Hid (x = 48 + ((dg u j : Nat) : Int)) := hx
      have HV : Hid (v = ((pre u j : Nat) : Int)) := hv
      have HS : Hid (pre u (j + 1) = pre u j * 10 + dg u j) := hstep
      clear hx hv hstep hshort hlt10 hpj
      by_cases ho : v ≤ (9223372036854775807 - (x - 48)) / 10
      · go_wp2
        go_quiet (fail)
        go_wp2
        go_quiet (fail)
        go_wp2
        go_roundw
        case rel =>
          have e : ((q : Nat) : Int) + 1 = ((p + (j + 1) : Nat) : Int) := by have := HQ.out; omega
          refine ⟨j + 1, hlt, ?_, ?_, grown_set (grown_drewN HGR.out _) _ _, ?_⟩
          · have h1 := HX.out; have h2 := HV.out; have h3 := HS.out
            congr 1; omega
          · rw [e]; exact (HDR.out.drewN _).set _
          · have h1 := HX.out; have h2 := HV.out; have h3 := HS.out
            omega
        case measure =>
          have e : ((q : Nat) : Int) + 1 = ((p + (j + 1) : Nat) : Int) := by have := HQ.out; omega
          rw [e, posOf_dec HDR.out, posOf_dec ((HDR.out.drewN _).set (p + (j + 1)))]
          omega
      · go_wp2
        go_quiet (fail)
        go_wp2
        go_quiet (fail)
        go_wp2_with fail
        refine (errorf_over F nm st wr.heap.size 2 _ (answers_grown hF (grown_alloc (grown_drewN HGR.out _) _)) ?_ ?_).mono ?_
        · exact new_cells _ _ _ _ 0 _ rfl
        · exact new_cells _ _ _ _ 1 _ rfl
        rintro e w' ⟨v', rfl, ht⟩
        go_wp2
        go_ret2
        have hu' : u = 9223372036854775808 := by
          have h1 := HX.out; have h2 := HV.out; have h3 := HS.out; have h4 := pre_le u (j + 1)
          omega
        exact ⟨((grown_alloc (grown_drewN HGR.out _) _).trans (ht.grown.but _)), .inr ⟨hu', v', rfl, ht.err⟩⟩
    · have hje : j = nd u := by omega
      subst hje
      have HU : Hid (u < 9223372036854775808) := by rw [pre_full] at hpj; exact hpj
      clear hpj
      have hby' : l.getD (p + nd u) 0 = E := HE.out
      rw [hby'] at hb
      have hne : (E != E) = false := by simp
      have hnd := nd_pos u
      have hfirst := HDR.out.2.2.2.2.2.2.2 p (by omega)
      have hp0 : l.getD p 0 = 48 + ((dg u 0 : Nat) : Int) := HT.out 0 hnd
      rw [hp0] at hfirst
      clear hp0
      have hlead := dg_first u
      have hlt10 := dg_lt u 0
      obtain ⟨y, hy⟩ : ∃ y : Int, y = 48 + ((dg u 0 : Nat) : Int) := ⟨_, rfl⟩
      rw [← hy] at hfirst
      obtain ⟨q, hqe⟩ : ∃ q, q = p + nd u := ⟨_, rfl⟩
      rw [← hqe] at hb hc1 hq hd0
      have hqp : ((q : Int) == (p : Int)) = false := by simp; omega
      have hge : decide ((n : Int) ≤ (q : Int)) = false := by simp; omega
      have HQ : Hid (q = p + nd u) := hqe
      by_cases hy0 : y = 48
      · rw [hy0] at hy hfirst
        have hq1 : decide ((1 : Int) < (q : Int) - (p : Int)) = false := by
          apply decide_eq_false
          by_cases h1 : 1 < nd u
          · have := hlead h1; omega
          · omega
        clear hqe hlead hy
        go_wp2
        go_quiet (fail)
        go_wp2
        go_quiet (fail)
        go_wp2
        go_ret2
        exact digits_end HGR.out HDR.out HQ.out HU.out
      · have hyb : (y == 48) = false := by simp [hy0]
        clear hqe hlead hy
        go_wp2
        go_quiet (fail)
        go_wp2
        go_quiet (fail)
        go_wp2
        go_ret2
        exact digits_end HGR.out HDR.out HQ.out HU.out
end Go.Proofs.Qxb6615960aFmt
