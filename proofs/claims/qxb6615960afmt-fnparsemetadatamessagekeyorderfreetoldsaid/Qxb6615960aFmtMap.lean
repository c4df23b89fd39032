/-
  The map[string]any that the decoder makes: what it holds.
-/
import Derived.Test.Qxb6615960aFmtText
import Derived.Maps.Own
import Derived.Maps.OwnOps
import Derived.Maps.OwnSet
import Derived.Maps.Views
import Derived.Maps.Range
namespace Go.Proofs.Qxb6615960aFmt
open Go.RowKit Go.Maps

/-- How an element reads. -/
def elem (v : Value) : Option (DataW Unit × List MemPlace) :=
  match v with
  | .iface 2 (.int .i64 x) => some (.lit (.int .i64 x), [])
  | .iface 9 (.string s) => some (.lit (.string s.data.toList), [])
  | .nilIface => some (.lit (.bool false), [])
  | _ => none

def Ent.datum : Ent → DataW Unit
  | .int v => .lit (.int .i64 v)
  | .str s => .lit (.string (strOfNums s).data.toList)

theorem elem_val (x : Ent) : elem x.val = some (x.datum, []) := by cases x <;> rfl
theorem elem_int {v : Value} {a : Int} {ps : List MemPlace} (h : elem v = some (.lit (.int .i64 a), ps)) : v = .iface 2 (.int .i64 a) := by
  unfold elem at h
  split at h <;> simp_all
theorem elem_nil {v : Value} {ps : List MemPlace} (h : elem v = some (.lit (.bool false), ps)) : v = .nilIface := by
  unfold elem at h
  split at h <;> simp_all

/-- The key as it is read. -/
def kl (k : List Int) : Lit := .string (strOfNums k).data.toList
theorem isKey (k : List Int) : WideAt.IsKeyLit (kl k) := trivial
theorem key_of (k : List Int) (h : k.length ≤ maxLen) : keyOf Tryf.prog 9 (.string (strOfNums k)) = some (kl k) :=
  WideMaps.keyOf_string_mk Tryf.underlying9 (by rw [strOfNums_size]; exact h)

def dOf (es : List (List Int × Ent)) : DataW Unit := es.foldl (fun d x => d.put (kl x.1) x.2.datum) (.map [])
theorem dOf_snoc (es : List (List Int × Ent)) (x : List Int × Ent) : dOf (es ++ [x]) = (dOf es).put (kl x.1) x.2.datum := by simp [dOf]
theorem has_fold_not (k : Lit) : ∀ (es : List (List Int × Ent)) (d : DataW Unit), has d k = false → (∀ x ∈ es, k ≠ kl x.1) → has (es.foldl (fun d x => d.put (kl x.1) x.2.datum) d) k = false
  | [], d, h, _ => h
  | x :: r, d, h, hk => has_fold_not k r _ (by rw [has_put_other (hk x (by simp))]; exact h) (fun y hy => hk y (by simp [hy]))
theorem has_dOf_not {k : Lit} {es : List (List Int × Ent)} (h : ∀ x ∈ es, k ≠ kl x.1) : has (dOf es) k = false := has_fold_not k es _ rfl h

theorem zero20 (w : World) : (zeroValue 20).run Tryf.prog w = .ok .nilIface w := by kernel_rfl
theorem keyed9 : Keyed Tryf.prog 9 := string_keyed Tryf.underlying9

theorem look_miss {w : World} {M n : Nat} {d : DataW Unit} (h : w.ownsMap Tryf.prog 9 elem M n d) {k : List Int} (hk : k.length ≤ maxLen) (hno : has d (kl k) = false) :
    (Instr.lookup 48 (.map (some M)) (.string (strOfNums k)) true).run Tryf.prog w = .ok (.tuple #[.nilIface, .bool false]) w := by
  obtain ⟨v, ps, hrun, hv⟩ := h.look_ok keyed9 Tryf.underlying48 (zero20 w) (zd := .lit (.bool false)) (zp := []) rfl (key_of k hk)
  rw [atKey_of_not_has hno] at hv
  rw [elem_nil hv, hno] at hrun
  exact hrun

theorem look_hit {w : World} {M n : Nat} {d : DataW Unit} (h : w.ownsMap Tryf.prog 9 elem M n d) {k : List Int} (hk : k.length ≤ maxLen) {a : Int} (hyes : has d (kl k) = true) (hat : ∀ z, d.atKey (kl k) z = .lit (.int .i64 a)) :
    (Instr.lookup 48 (.map (some M)) (.string (strOfNums k)) true).run Tryf.prog w = .ok (.tuple #[.iface 2 (.int .i64 a), .bool true]) w := by
  obtain ⟨v, ps, hrun, hv⟩ := h.look_ok keyed9 Tryf.underlying48 (zero20 w) (zd := .lit (.bool false)) (zp := []) rfl (key_of k hk)
  rw [hat] at hv
  rw [elem_int hv, hyes] at hrun
  exact hrun

end Go.Proofs.Qxb6615960aFmt
