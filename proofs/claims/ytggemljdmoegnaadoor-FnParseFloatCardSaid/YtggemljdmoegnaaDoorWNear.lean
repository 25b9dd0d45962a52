/- The reference's test whether two floats are near, and its scaling by a power of ten. Conditions: the floats are about one fraction. -/
import Derived.Test.YtggemljdmoegnaaDoorWords
import Derived.Test.YtggemljdmoegnaaDoorNear
import Derived.Laws.FloatArith
namespace Go.Proofs.YtggemljdmoegnaaDoor
open Go.RowKit
set_option linter.unusedVariables false

/-- The sign of a float turned. -/
theorem run_fneg (P : Program) (x : Nat) (w : World) : (Op.unary .neg (.float .f64 x)).run P w = .ok (.float .f64 (Op.negFloat .f64 x)) w := rfl
theorem near_walk (a b d p : Nat) (t s : Bool) (w : World) (h1 : Ieee.double.sub a b = some d) (ht : (Ieee.double.order d 0 == some .lt) = t) (hs : (Ieee.double.order b 0 == some .lt) = s) (h2 : Ieee.double.mul (if s then fneg b else b) cTiny = some p)
    (h3 : (Ieee.double.order (if t then fneg d else d) p == some .lt || Ieee.double.order (if t then fneg d else d) p == some .eq) = true) :
    Calls Tryd.prog 9 #[.float .f64 a, .float .f64 b] w fun e w' => e = .returned (.bool true) ∧ w = w' := by
  have r1 := run_float_arith (P := Tryd.prog) w .sub 26 .f64 a b d h1
  cases s
  · have r2 := run_float_arith (P := Tryd.prog) w .mul 26 .f64 b cTiny p h2
    cases t
    · have t1 : (FloatKind.f64.format.order d 0 == some .lt) = false := ht
      have t2 : (FloatKind.f64.format.order b 0 == some .lt) = false := hs
      have t3 : (FloatKind.f64.format.order d p == some .lt || FloatKind.f64.format.order d p == some .eq) = true := h3
      have n1 := run_fneg Tryd.prog d
      have n2 := run_fneg Tryd.prog b
      unfold cTiny at r2
      clear h1 ht hs h2 h3
      go_enter Tryd.func9, Tryd.ntmps9
      go_wp2
      go_ret
      exact ⟨rfl, rfl⟩
    · have t1 : (FloatKind.f64.format.order d 0 == some .lt) = true := ht
      have t2 : (FloatKind.f64.format.order b 0 == some .lt) = false := hs
      have t3 : (FloatKind.f64.format.order (Op.negFloat .f64 d) p == some .lt || FloatKind.f64.format.order (Op.negFloat .f64 d) p == some .eq) = true := h3
      have n1 := run_fneg Tryd.prog d
      have n2 := run_fneg Tryd.prog b
      unfold cTiny at r2
      clear h1 ht hs h2 h3
      go_enter Tryd.func9, Tryd.ntmps9
      go_wp2
      go_ret
      exact ⟨rfl, rfl⟩
  · have r2 := run_float_arith (P := Tryd.prog) w .mul 26 .f64 (Op.negFloat .f64 b) cTiny p h2
    cases t
    · have t1 : (FloatKind.f64.format.order d 0 == some .lt) = false := ht
      have t2 : (FloatKind.f64.format.order b 0 == some .lt) = true := hs
      have t3 : (FloatKind.f64.format.order d p == some .lt || FloatKind.f64.format.order d p == some .eq) = true := h3
      have n1 := run_fneg Tryd.prog d
      have n2 := run_fneg Tryd.prog b
      unfold cTiny at r2
      clear h1 ht hs h2 h3
      go_enter Tryd.func9, Tryd.ntmps9
      go_wp2
      go_ret
      exact ⟨rfl, rfl⟩
    · have t1 : (FloatKind.f64.format.order d 0 == some .lt) = true := ht
      have t2 : (FloatKind.f64.format.order b 0 == some .lt) = true := hs
      have t3 : (FloatKind.f64.format.order (Op.negFloat .f64 d) p == some .lt || FloatKind.f64.format.order (Op.negFloat .f64 d) p == some .eq) = true := h3
      have n1 := run_fneg Tryd.prog d
      have n2 := run_fneg Tryd.prog b
      unfold cTiny at r2
      clear h1 ht hs h2 h3
      go_enter Tryd.func9, Tryd.ntmps9
      go_wp2
      go_ret
      exact ⟨rfl, rfl⟩
theorem near_any {a b x y N D : Nat} {s : Bool} (w : World) (h : Ap a s x N D) (h' : Ap b s y N D) (hab : a + b ≤ 400) (rg : Rg N D) :
    Calls Tryd.prog 9 #[.float .f64 x, .float .f64 y] w fun e w' => e = .returned (.bool true) ∧ w = w' := by
  obtain ⟨d, t, p, h1, h2, h3, h4, h5⟩ := near_floats h h' hab rg
  exact near_walk x y d p t s w h1 h2 h3 h4 h5
/-- Both are zero. -/
theorem near_zero (w : World) : Calls Tryd.prog 9 #[.float .f64 0, .float .f64 0] w fun e w' => e = .returned (.bool true) ∧ w = w' :=
  near_walk 0 0 0 0 false false w (by decide +kernel) (by decide +kernel) (by decide +kernel) (by decide +kernel) (by decide +kernel)
theorem near_mzero (w : World) : Calls Tryd.prog 9 #[.float .f64 9223372036854775808, .float .f64 9223372036854775808] w fun e w' => e = .returned (.bool true) ∧ w = w' :=
  near_walk _ _ 0 9223372036854775808 false false w (by decide +kernel) (by decide +kernel) (by decide +kernel) (by decide +kernel) (by decide +kernel)
end Go.Proofs.YtggemljdmoegnaaDoor
