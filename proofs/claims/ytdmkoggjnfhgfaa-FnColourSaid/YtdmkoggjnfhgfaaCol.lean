/- Colours: the rule for one channel, by two bounds and a hue; the test whether two numbers are close, at one number twice. Conditions: bounds of the numbers. -/
import Derived.Test.YtdmkoggjnfhgfaaWords
import Derived.Test.YtdmkoggjnfhgfaaFlo
namespace Go.Proofs.Ytdmkoggjnfhgfaa
open Go.RowKit
set_option linter.unusedVariables false

def ltF (a b : Nat) : Bool := FloatKind.f64.format.order a b == some .lt
def gtF (a b : Nat) : Bool := FloatKind.f64.format.order a b == some .gt
def cOne : Nat := 4607182418800017408
def cTwo : Nat := 4611686018427387904
def cThree : Nat := 4613937818241073152
def cSix : Nat := 4618441417868443648
def cTT : Nat := 4604180019048437077
theorem run_fadd (P : Program) (t : TypeId) {a b : Nat} (h : Ieee.double.add a b = some (fadd a b)) (w : World) : (binOp .add t (.float .f64 a) (.float .f64 b)).run P w = .ok (.float .f64 (fadd a b)) w := run_float_arith w .add t .f64 a b _ h
theorem run_fsub (P : Program) (t : TypeId) {a b : Nat} (h : Ieee.double.sub a b = some (fsub a b)) (w : World) : (binOp .sub t (.float .f64 a) (.float .f64 b)).run P w = .ok (.float .f64 (fsub a b)) w := run_float_arith w .sub t .f64 a b _ h
theorem run_fmul (P : Program) (t : TypeId) {a b : Nat} (h : Ieee.double.mul a b = some (fmul a b)) (w : World) : (binOp .mul t (.float .f64 a) (.float .f64 b)).run P w = .ok (.float .f64 (fmul a b)) w := run_float_arith w .mul t .f64 a b _ h

theorem close_self (a k : Nat) (w : World) (ha : Bd k a) (hk : k ≤ 1000) :
    Calls Try.prog 6 #[.float .f64 a, .float .f64 a] w fun e w' => e = .returned (.bool true) ∧ w = w' := by
  have r1 := run_float_arith (P := Try.prog) w .sub 22 .f64 a a 0 (fsub_self ha hk)
  have t1 : (FloatKind.f64.format.order 0 4472406533629990549 == some .lt) = true := by decide +kernel
  clear ha
  go_enter Try.func6, Try.ntmps6
  go_wp2
  go_ret
  exact ⟨rfl, rfl⟩
end Go.Proofs.Ytdmkoggjnfhgfaa
