/-
  The walk of (*decoder).str (39).
-/
import Derived.Test.Qxb6615960aFmtInteger
import Derived.WalkSpells
namespace Go.Proofs.Qxb6615960aFmt
open Go.RowKit Go.Extern.Stop Go.Stop Go.Extern

/-- The u bytes at place q. -/
def part (l : List Int) (q u : Nat) : List Int := (l.drop q).take u
theorem part_length {l : List Int} {q u : Nat} (h : q + u ≤ l.length) : (part l q u).length = u := by simp [part]; omega
theorem part_getD {l : List Int} {q u i : Nat} (hi : i < u) : (part l q u).getD i 0 = l.getD (q + i) 0 := by
  simp [part, List.getD, hi]

set_option maxRecDepth 100000 in
set_option maxHeartbeats 400000 in
theorem str_any (F : Interp) (D B n c : Nat) (l : List Int) (p u : Nat) (w : World) (hF : F.answers w.tape) (hd : Dec w D B n c l p)
    (htxt : ∀ j, j < nd u → l.getD (p + j) 0 = 48 + (dg u j : Nat)) (hend : l.getD (p + nd u) 0 = 58) (hfit : p + nd u + 1 + u < n) (hn : n ≤ 1000000000000) :
    Calls Tryf.prog 39 #[.pointer (some ⟨D, 0, none⟩)] w fun e w' => w.grownBy w' (some D) ∧
      e = .returned (.tuple #[.string (strOfNums (part l (p + nd u + 1) u)), .nilIface]) ∧ Dec w' D B n c l (p + nd u + 1 + u) := by
  have HT : Hid (∀ j, j < nd u → l.getD (p + j) 0 = 48 + (dg u j : Nat)) := htxt
  have HE : Hid (l.getD (p + nd u) 0 = 58) := hend
  have HD : Hid (Dec w D B n c l p) := hd
  have hc1 := hd.2.1
  have hf := hd.2.2.1
  clear htxt hend hd
  go_enter Tryf.func39, Tryf.ntmps39
  go_wp2_with fail
  refine (digits_any F _ _ 58 D B n c l p u _ hF HD.out HT.out HE.out (.inr rfl) (by omega) hn (by omega)).mono ?_
  rintro e w1 ⟨hg1, ⟨hu1, rfl, hd1⟩ | ⟨hu1, _⟩⟩
  · have HG1 : Hid (w.grownBy w1 (some D)) := hg1
    obtain ⟨q, hq⟩ : ∃ q, q = p + nd u + 1 := ⟨_, rfl⟩
    have HQ : Hid (q = p + nd u + 1) := hq
    rw [← hq] at hd1 hfit
    have HD1 : Hid (Dec w1 D B n c l q) := hd1
    clear hg1 hc1 hf hq
    obtain ⟨hc0, hc1, hf, hBD, hll, hnc, hby, hcell⟩ := hd1
    have hconv := fun k cap => run_convert_bytes_arg (P := Tryf.prog) (w1.drewN k) 22 5 Tryf.underlying22 Tryf.underlying5 B q u cap (part l q u) (part_length (by omega))
      (fun i hi => by rw [part_getD hi]; exact hcell (q + i) (by omega)) 9 Tryf.underlying9
    clear hcell hby hll hu1
    have hgt : decide (((n : Nat) : Int) - (q : Int) < (u : Int)) = false := by simp; omega
    have hqn : q + u < n := hfit
    have hcq : ¬ c = q := by omega
    have hs1 : (0 : Int) ≤ (q : Int) := by omega
    have hs2 : (q : Int) ≤ (q : Int) + (u : Int) := by omega
    have hs3 : (q : Int) + (u : Int) ≤ (c : Int) := by omega
    have hs5 : ((q : Int) + (u : Int)).toNat - q = u := by omega
    go_wp2
    go_quiet (fail)
    go_wp2
    go_quiet (fail)
    go_wp2
    go_ret2
    have e : (q : Int) + (u : Int) = ((q + u : Nat) : Int) := by omega
    rw [e]
    exact ⟨grown_set (grown_drewN HG1.out _) _ _, HQ.out ▸ rfl, HQ.out ▸ (HD1.out.drewN _).set _⟩
  · omega
end Go.Proofs.Qxb6615960aFmt
