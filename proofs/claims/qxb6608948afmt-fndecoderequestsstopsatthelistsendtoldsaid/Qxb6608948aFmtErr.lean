/-
  fmt.Errorf at this dump's one format that is met: some error, never nil.
-/
import Derived.Test.Qxb6608948aFmtDec
import Derived.Stop.CallBack
import Derived.Stop.IfaceNil
import GoSem.ClaimData
namespace Go.Proofs.Qxb6608948aFmt
set_option linter.unusedSimpArgs false
set_option linter.unusedVariables false
open Go.RowKit Go.Extern.Stop Go.Stop Go.Extern

@[go_sem] theorem call22 (args : Array Value) (w : World) : (callFunc 22 args).run Tryf.prog w = ((FmtStop.errorf #[9, 55] #[33] args).run Tryf.prog w).andThen fun v w' => .ok (.value v) w' :=
  run_callFunc_extern Tryf.func22 (by kernel_rfl) (by kernel_rfl) (by kernel_rfl) (by kernel_rfl) args w
@[go_sem] theorem fguard (name : String) (w : World) : (FmtStop.guard name).run Tryf.prog w = .ok () w := by kernel_rfl
@[go_sem] theorem fmt0 : FmtStop.printed? ⟨#[99, 111, 117, 110, 116, 32, 37, 100, 32, 101, 120, 99, 101, 101, 100, 115, 32, 116, 104, 101, 32, 37, 100, 32, 98, 121, 116, 101, 115, 32, 108, 101, 102, 116]⟩ 2 = some [(0, 100, false), (1, 100, false)] := by kernel_rfl
@[go_sem] theorem fmt0r (w : World) : (FmtDoors.printed ⟨#[99, 111, 117, 110, 116, 32, 37, 100, 32, 101, 120, 99, 101, 101, 100, 115, 32, 116, 104, 101, 32, 37, 100, 32, 98, 121, 116, 101, 115, 32, 108, 101, 102, 116]⟩ 2).run Tryf.prog w = .ok [(0, 100, false), (1, 100, false)] w := by kernel_rfl
def shape3 : List UInt8 := [5, 3, 0, 0, 0, 0, 0, 0, 0, 105, 110, 116]
@[go_sem] theorem op3_100 (name : String) (x : Int) (w : World) : (FmtStop.operand name false 100 false (.iface 3 (.int .i64 x))).run Tryf.prog w = .ok (shape3, Go.Extern.Stop.digits 8 (x % 2 ^ 64).toNat) w := by kernel_rfl
@[go_sem] theorem op3_100w (name : String) (x : Int) (w : World) : (FmtStop.operand name true 100 false (.iface 3 (.int .i64 x))).run Tryf.prog w = .ok (shape3, Go.Extern.Stop.digits 8 (x % 2 ^ 64).toNat) w := by kernel_rfl
def shape25 : List UInt8 := [8, 6, 0, 0, 0, 0, 0, 0, 0, 117, 105, 110, 116, 51, 50]
@[go_sem] theorem op25_100 (name : String) (x : Int) (w : World) : (FmtStop.operand name false 100 false (.iface 25 (.int .u32 x))).run Tryf.prog w = .ok (shape25, Go.Extern.Stop.digits 8 (x % 2 ^ 64).toNat) w := by kernel_rfl
@[go_sem] theorem op25_100w (name : String) (x : Int) (w : World) : (FmtStop.operand name true 100 false (.iface 25 (.int .u32 x))).run Tryf.prog w = .ok (shape25, Go.Extern.Stop.digits 8 (x % 2 ^ 64).toNat) w := by kernel_rfl
@[go_sem] theorem ptr59 (w : World) : (FmtStop.ptrTo "errors.errorString").run Tryf.prog w = .ok 59 w := by kernel_rfl
@[go_sem] theorem elem59 (w : World) : (elemOf 59).run Tryf.prog w = .ok 61 w := by kernel_rfl
@[go_sem] theorem isError59 (w : World) : (FmtDoors.textMethod 59 "Error").run Tryf.prog w = .ok true w := by kernel_rfl

/-- Some error. -/
def SomeErr (e : Ending) : Prop := ∃ t v, e = .returned (.iface t v)
theorem errorf_19 (F : Interp) (V : Nat) (x y : Int) (W : World) (hF : F.answers W.tape) (c0 : W.cell? ⟨V, 0, none⟩ = some (.iface 25 (.int .u32 x))) (c1 : W.cell? ⟨V, 1, none⟩ = some (.iface 3 (.int .i64 y))) :
    Calls Tryf.prog 19 #[.string ⟨#[99, 111, 117, 110, 116, 32, 37, 100, 32, 101, 120, 99, 101, 101, 100, 115, 32, 116, 104, 101, 32, 37, 100, 32, 98, 121, 116, 101, 115, 32, 108, 101, 102, 116]⟩, .slice (some ⟨V, 0, none⟩) 2 2] W fun e w' => SomeErr e ∧ Below W.heap.size W w' := by
  have hF' : ∀ i name reading k range, W.tape i (.extern (word name reading k) range) = F name reading k := hF
  go_enter Tryf.func19, Tryf.ntmps19
  go_wp2
  go_ret
  exact ⟨⟨_, _, rfl⟩, by go_grown⟩
end Go.Proofs.Qxb6608948aFmt
