/-
  The closed facts for a walk over fmt.errorf in this program, typed after the guide's worked texts (there is no generator here).
-/
import Derived.Test.Qxb6615960aFmtRows
import Derived.Stop.FmtLaws
import Derived.Stop.Walk
import Derived.WalkKit
import Derived.Stop.IfaceNil
import GoSem.ClaimData
namespace Go.Proofs.Qxb6615960aFmt
open Go.Extern.Stop Go.Stop Go.Extern

@[go_sem] theorem call34 (args : Array Value) (w : World) : (callFunc 34 args).run Tryf.prog w = ((FmtStop.errorf #[9, 79] #[28] args).run Tryf.prog w).andThen fun v w' => .ok (.value v) w' :=
  run_callFunc_extern Tryf.func34 (by kernel_rfl) (by kernel_rfl) (by kernel_rfl) (by kernel_rfl) args w

@[go_sem] theorem guardF (name : String) (w : World) : (FmtStop.guard name).run Tryf.prog w = .ok () w := by kernel_rfl

-- "bencode: the %s begun at byte %d does not fit in 64 bits"
def fmtText0 : ByteArray := ⟨#[98, 101, 110, 99, 111, 100, 101, 58, 32, 116, 104, 101, 32, 37, 115, 32, 98, 101, 103, 117, 110, 32, 97, 116, 32, 98, 121, 116, 101, 32, 37, 100, 32, 100, 111, 101, 115, 32, 110, 111, 116, 32, 102, 105, 116, 32, 105, 110, 32, 54, 52, 32, 98, 105, 116, 115]⟩
@[go_sem] theorem fmt0r (w : World) : (FmtDoors.printed ⟨#[98, 101, 110, 99, 111, 100, 101, 58, 32, 116, 104, 101, 32, 37, 115, 32, 98, 101, 103, 117, 110, 32, 97, 116, 32, 98, 121, 116, 101, 32, 37, 100, 32, 100, 111, 101, 115, 32, 110, 111, 116, 32, 102, 105, 116, 32, 105, 110, 32, 54, 52, 32, 98, 105, 116, 115]⟩ 2).run Tryf.prog w = .ok [(0, 115, false), (1, 100, false)] w := by kernel_rfl
-- "no %s"
def fmtText1 : ByteArray := ⟨#[110, 111, 32, 37, 115]⟩
@[go_sem] theorem fmt1r (w : World) : (FmtDoors.printed ⟨#[110, 111, 32, 37, 115]⟩ 1).run Tryf.prog w = .ok [(0, 115, false)] w := by kernel_rfl
-- "a ut_metadata message: %w"
def fmtText2 : ByteArray := ⟨#[97, 32, 117, 116, 95, 109, 101, 116, 97, 100, 97, 116, 97, 32, 109, 101, 115, 115, 97, 103, 101, 58, 32, 37, 119]⟩
@[go_sem] theorem fmt2r (w : World) : (FmtDoors.printed ⟨#[97, 32, 117, 116, 95, 109, 101, 116, 97, 100, 97, 116, 97, 32, 109, 101, 115, 115, 97, 103, 101, 58, 32, 37, 119]⟩ 1).run Tryf.prog w = .ok [(0, 119, false)] w := by kernel_rfl
-- "a ut_metadata message for piece %d"
def fmtText3 : ByteArray := ⟨#[97, 32, 117, 116, 95, 109, 101, 116, 97, 100, 97, 116, 97, 32, 109, 101, 115, 115, 97, 103, 101, 32, 102, 111, 114, 32, 112, 105, 101, 99, 101, 32, 37, 100]⟩
@[go_sem] theorem fmt3r (w : World) : (FmtDoors.printed ⟨#[97, 32, 117, 116, 95, 109, 101, 116, 97, 100, 97, 116, 97, 32, 109, 101, 115, 115, 97, 103, 101, 32, 102, 111, 114, 32, 112, 105, 101, 99, 101, 32, 37, 100]⟩ 1).run Tryf.prog w = .ok [(0, 100, false)] w := by kernel_rfl

def shape9 : List UInt8 := [12, 6, 0, 0, 0, 0, 0, 0, 0, 115, 116, 114, 105, 110, 103]
@[go_sem] theorem op9_115w (name : String) (x : ByteArray) (w : World) : (FmtStop.operand name true 115 false (.iface 9 (.string x))).run Tryf.prog w = .ok (shape9, FmtStop.pack x.data.toList) w := by kernel_rfl
def shape3 : List UInt8 := [5, 3, 0, 0, 0, 0, 0, 0, 0, 105, 110, 116]
@[go_sem] theorem op3_100w (name : String) (x : Int) (w : World) : (FmtStop.operand name true 100 false (.iface 3 (.int .i64 x))).run Tryf.prog w = .ok (shape3, Go.Extern.Stop.digits 8 (x % 2 ^ 64).toNat) w := by kernel_rfl
def shape2 : List UInt8 := [5, 5, 0, 0, 0, 0, 0, 0, 0, 105, 110, 116, 54, 52]
@[go_sem] theorem op2_100w (name : String) (x : Int) (w : World) : (FmtStop.operand name true 100 false (.iface 2 (.int .i64 x))).run Tryf.prog w = .ok (shape2, Go.Extern.Stop.digits 8 (x % 2 ^ 64).toNat) w := by kernel_rfl

@[go_sem] theorem ptr99 (w : World) : (FmtStop.ptrTo "errors.errorString").run Tryf.prog w = .ok 99 w := by kernel_rfl
@[go_sem] theorem elem99 (w : World) : (elemOf 99).run Tryf.prog w = .ok 101 w := by kernel_rfl
@[go_sem] theorem isError99' (w : World) : (FmtDoors.textMethod 99 "Error").run Tryf.prog w = .ok true w := by kernel_rfl
def plain99 : List UInt8 := 14 :: FmtStop.pack "*errors.errorString".toUTF8.data.toList
theorem opPlain99_119w (name : String) (a : Addr) (s : ByteArray) (w : World) (hc : w.cell? a = some (.string s)) :
    (FmtStop.operand name true 119 false (.iface 99 (.pointer (some a)))).run Tryf.prog w = .ok (plain99, s.data.toList) w := by
  have h1 : (typeStr 99).run Tryf.prog w = .ok "*errors.errorString" w := by kernel_rfl
  have d2 : Tryf.t99.desc = .pointer 101 := rfl
  have d3 : Tryf.t101.desc = .named "errors.errorString" 100 := rfl
  simp [FmtStop.operand, h1, d2, d3, run_load, hc, plain99]
@[go_sem] theorem ptr80 (w : World) : (FmtStop.ptrTo "fmt.wrapError").run Tryf.prog w = .ok 80 w := by kernel_rfl
@[go_sem] theorem elem80 (w : World) : (elemOf 80).run Tryf.prog w = .ok 124 w := by kernel_rfl

end Go.Proofs.Qxb6615960aFmt
