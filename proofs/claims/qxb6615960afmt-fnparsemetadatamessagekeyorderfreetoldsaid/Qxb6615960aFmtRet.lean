/-
  The return of a struct of two or four cells out of its own variable.
-/
import Derived.Test.Qxb6615960aFmtBase
import Derived.Test.Qxb6615960aFmtRows
namespace Go.Proofs.Qxb6615960aFmt
open Go.RowKit

theorem load50 (w : World) (A : Nat) (v0 v1 : Value) (h0 : w.cell? ⟨A, 0, none⟩ = some v0) (h1 : w.cell? ⟨A, 1, none⟩ = some v1) : (loadVar 50 ⟨A, 0, none⟩).run Tryf.prog w = .ok (.agg #[v0, v1]) w := by
  have hz : (isAgg 50).run Tryf.prog w = .ok true w := by kernel_rfl
  simp [loadVar, hz, loadCells, loadCellsFrom, run_load, h0, h1, Addr.add]

theorem load26 (w : World) (A : Nat) (v0 v1 v2 v3 : Value) (h0 : w.cell? ⟨A, 0, none⟩ = some v0) (h1 : w.cell? ⟨A, 1, none⟩ = some v1) (h2 : w.cell? ⟨A, 2, none⟩ = some v2) (h3 : w.cell? ⟨A, 3, none⟩ = some v3) :
    (loadVar 26 ⟨A, 0, none⟩).run Tryf.prog w = .ok (.agg #[v0, v1, v2, v3]) w := by
  have hz : (isAgg 26).run Tryf.prog w = .ok true w := by kernel_rfl
  simp [loadVar, hz, loadCells, loadCellsFrom, run_load, h0, h1, h2, h3, Addr.add]

theorem results_cell_tmp {fn : Func} {t u : Tmp} {ty : TypeId} (h : fn.results = #[.cell t ty, .tmp u]) (tmps : Array Value) (P : Program) (w : World) {a : Addr} {v : Value} (ha : tmps.getD t undef = .pointer (some a)) (hl : (loadVar ty a).run P w = .ok v w) :
    (results fn tmps).run P w = .ok (.tuple #[v, tmps.getD u undef]) w := by
  have ha' : tmps[t]?.getD undef = .pointer (some a) := by rw [← ha]; simp
  simp [results, h, ha', asAddr, hl]

theorem results_cell_tmp2 {fn : Func} {t u x : Tmp} {ty : TypeId} (h : fn.results = #[.cell t ty, .tmp u, .tmp x]) (tmps : Array Value) (P : Program) (w : World) {a : Addr} {v : Value} (ha : tmps.getD t undef = .pointer (some a)) (hl : (loadVar ty a).run P w = .ok v w) :
    (results fn tmps).run P w = .ok (.tuple #[v, tmps.getD u undef, tmps.getD x undef]) w := by
  have ha' : tmps[t]?.getD undef = .pointer (some a) := by rw [← ha]; simp
  simp [results, h, ha', asAddr, hl]
end Go.Proofs.Qxb6615960aFmt
