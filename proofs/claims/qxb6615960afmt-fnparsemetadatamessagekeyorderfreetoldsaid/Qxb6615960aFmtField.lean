/-
  The walk of Dict.IntField (21).
-/
import Derived.Test.Qxb6615960aFmtPrefix
namespace Go.Proofs.Qxb6615960aFmt
open Go.RowKit Go.Extern.Stop Go.Stop Go.Extern

set_option maxRecDepth 100000 in
set_option maxHeartbeats 400000 in
theorem field_hit (M n : Nat) (d : DataW Unit) (ra : Option Addr) (rn rc : Nat) (key : ByteArray) (k : List Int) (a : Int) (w : World) (hkey : key = strOfNums k) (hk : k.length ≤ maxLen) (hM : w.ownsMap Tryf.prog 9 elem M n d)
    (hyes : Maps.has d (kl k) = true) (hat : ∀ z, d.atKey (kl k) z = .lit (.int .i64 a)) :
    Calls Tryf.prog 21 #[.agg #[.map (some M), .slice ra rn rc], .string key] w fun e w' => e = .returned (.tuple #[.int .i64 a, .nilIface]) ∧ w.grownBy w' none := by
  subst hkey
  have HL : Hid (∀ w', w.grownBy w' none → (Instr.lookup 48 (.map (some M)) (.string (strOfNums k)) true).run Tryf.prog w' = .ok (.tuple #[.iface 2 (.int .i64 a), .bool true]) w') :=
    fun w' hg => look_hit (hM.kept hg (by simp)) hk hyes hat
  have hlook := HL.out _ (grown_alloc (grown_refl w none) (.cells #[.map (some M), .slice ra rn rc] 50))
  have hta := assert2
  clear hM hyes hat
  go_enter Tryf.func21, Tryf.ntmps21
  go_wp2
  go_ret2
  exact ⟨rfl, grown_alloc (grown_refl w none) _⟩

set_option maxRecDepth 100000 in
set_option maxHeartbeats 400000 in
theorem field_miss (F : Interp) (M n : Nat) (d : DataW Unit) (ra : Option Addr) (rn rc : Nat) (key : ByteArray) (k : List Int) (w : World) (hF : F.answers w.tape) (hkey : key = strOfNums k) (hk : k.length ≤ maxLen) (hM : w.ownsMap Tryf.prog 9 elem M n d)
    (hno : Maps.has d (kl k) = false) :
    Calls Tryf.prog 21 #[.agg #[.map (some M), .slice ra rn rc], .string key] w fun e w' => ∃ v, e = .returned (.tuple #[.int .i64 0, v]) ∧ Told w w' v := by
  subst hkey
  have hlook := look_miss (hM.kept (grown_alloc (grown_refl w none) (.cells #[.map (some M), .slice ra rn rc] 50)) (by simp)) hk hno
  clear hM hno
  go_enter Tryf.func21, Tryf.ntmps21
  go_wp2_with fail
  refine (errorf_no F (strOfNums k) (w.heap.size + 1) 1 _ (answers_grown hF (grown_alloc (grown_alloc (grown_refl w none) _) _)) (by simp)).mono ?_
  rintro e w1 ⟨v, rfl, g, s, rfl, hs, hg⟩
  have HS : Hid (w1.cell? ⟨g, 0, none⟩ = some (.string s)) := hs
  have HG : Hid (w.grownBy w1 none) := World.grownBy.trans (grown_alloc (grown_alloc (grown_refl w none) _) _) hg
  clear hs hg hlook
  go_wp2
  go_ret2
  exact ⟨_, rfl, g, s, rfl, HS.out, HG.out⟩
end Go.Proofs.Qxb6615960aFmt
