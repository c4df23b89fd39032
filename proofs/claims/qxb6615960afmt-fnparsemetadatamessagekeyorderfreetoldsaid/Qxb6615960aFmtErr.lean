/-
  fmt.Errorf (20) at the four formats on the road: an error that is not nil; nothing elder turned.
-/
import Derived.Test.Qxb6615960aFmtFmt
import Derived.Test.Qxb6615960aFmtBase
import Derived.Maps.AppendAt
import Derived.Deep.AppendLies
import Derived.Deep.QuietTactic
import Derived.BigQuiet
namespace Go.Proofs.Qxb6615960aFmt
open Go.RowKit Go.Extern.Stop Go.Stop Go.Extern

theorem grown_drew {w w' : World} {r : Option Nat} (h : w.grownBy w' r) : w.grownBy w'.drew r := ⟨h.os, h.tape, h.output, h.size, h.block⟩
theorem grown_drewN {w w' : World} {r : Option Nat} (h : w.grownBy w' r) (q : Nat) : w.grownBy (w'.drewN q) r := ⟨h.os, h.tape, h.output, h.size, h.block⟩
theorem grown_refl (w : World) (r : Option Nat) : w.grownBy w r := ⟨rfl, rfl, rfl, Nat.le_refl _, fun _ _ _ => rfl⟩
theorem grown_alloc {w w' : World} {r : Option Nat} (h : w.grownBy w' r) (o : Obj) : w.grownBy (w'.alloc o) r := h.trans (World.grownBy_alloc w' o r)
theorem grown_set {w w' : World} {r : Nat} (h : w.grownBy w' (some r)) (k : Nat) (v : Value) : w.grownBy (w'.setCell ⟨r, k, none⟩ v) (some r) :=
  h.trans ⟨rfl, rfl, rfl, by simp, fun j _ hj => heap_setCell_other w' _ j v (fun e => hj (by rw [e]))⟩
theorem answers_grown {F : Interp} {w w' : World} {r : Option Nat} (hF : F.answers w.tape) (h : w.grownBy w' r) : F.answers w'.tape := by rw [h.tape]; exact hF

/-- A new error of fmt's make without %w: its text lies in a block. -/
def Told (w w' : World) (e : Value) : Prop :=
  ∃ g s, e = .iface 99 (.pointer (some ⟨g, 0, none⟩)) ∧ w'.cell? ⟨g, 0, none⟩ = some (.string s) ∧ w.grownBy w' none

theorem told_mk (w : World) (s : ByteArray) (h : TypeId) : Told w (w.alloc (.cells #[.string s] h)).drew (.iface 99 (.pointer (some ⟨w.heap.size, 0, none⟩))) :=
  ⟨_, s, rfl, by simp, grown_drew (World.grownBy_alloc w _ _)⟩

theorem errorf_over (F : Interp) (nm : ByteArray) (n : Int) (b : Nat) (c : Nat) (w : World) (hF : F.answers w.tape)
    (h0 : w.cell? ⟨b, 0, none⟩ = some (.iface 9 (.string nm))) (h1 : w.cell? ⟨b, 1, none⟩ = some (.iface 3 (.int .i64 n))) :
    Calls Tryf.prog 20 #[.string fmtText0, .slice (some ⟨b, 0, none⟩) 2 c] w fun e w' => ∃ v, e = .returned v ∧ Told w w' v := by
  have hF' : ∀ i name reading k range, w.tape i (.extern (word name reading k) range) = F name reading k := hF
  unfold fmtText0
  go_enter Tryf.func20, Tryf.ntmps20
  go_wp2
  go_ret
  exact ⟨_, rfl, told_mk _ _ _⟩

theorem errorf_no (F : Interp) (nm : ByteArray) (b : Nat) (c : Nat) (w : World) (hF : F.answers w.tape)
    (h0 : w.cell? ⟨b, 0, none⟩ = some (.iface 9 (.string nm))) :
    Calls Tryf.prog 20 #[.string fmtText1, .slice (some ⟨b, 0, none⟩) 1 c] w fun e w' => ∃ v, e = .returned v ∧ Told w w' v := by
  have hF' : ∀ i name reading k range, w.tape i (.extern (word name reading k) range) = F name reading k := hF
  unfold fmtText1
  go_enter Tryf.func20, Tryf.ntmps20
  go_wp2
  go_ret
  exact ⟨_, rfl, told_mk _ _ _⟩

theorem errorf_piece (F : Interp) (n : Int) (b : Nat) (c : Nat) (w : World) (hF : F.answers w.tape)
    (h0 : w.cell? ⟨b, 0, none⟩ = some (.iface 2 (.int .i64 n))) :
    Calls Tryf.prog 20 #[.string fmtText3, .slice (some ⟨b, 0, none⟩) 1 c] w fun e w' => ∃ v, e = .returned v ∧ Told w w' v := by
  have hF' : ∀ i name reading k range, w.tape i (.extern (word name reading k) range) = F name reading k := hF
  unfold fmtText3
  go_enter Tryf.func20, Tryf.ntmps20
  go_wp2
  go_ret
  exact ⟨_, rfl, told_mk _ _ _⟩

theorem errorf_wrap (F : Interp) (g : Nat) (s : ByteArray) (b : Nat) (c : Nat) (w : World) (hF : F.answers w.tape)
    (h0 : w.cell? ⟨b, 0, none⟩ = some (.iface 99 (.pointer (some ⟨g, 0, none⟩)))) (hs : w.cell? ⟨g, 0, none⟩ = some (.string s)) :
    Calls Tryf.prog 20 #[.string fmtText2, .slice (some ⟨b, 0, none⟩) 1 c] w fun e w' => ∃ a, e = .returned (.iface 80 (.pointer (some a))) ∧ w.grownBy w' none := by
  have hF' : ∀ i name reading k range, w.tape i (.extern (word name reading k) range) = F name reading k := hF
  have hop := fun name => opPlain99_119w name ⟨g, 0, none⟩ s w hs
  unfold fmtText2
  go_enter Tryf.func20, Tryf.ntmps20
  go_wp2
  go_ret
  exact ⟨_, rfl, grown_drew (World.grownBy_alloc w _ _)⟩
end Go.Proofs.Qxb6615960aFmt
