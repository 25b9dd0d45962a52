/- The walk of 'laws.FnColour': it returns true for every three integers. No condition. -/
import Derived.Test.YtdmkoggjnfhgfaaHsl
namespace Go.Proofs.Ytdmkoggjnfhgfaa
open Go.RowKit
set_option linter.unusedVariables false

def parts (n : Int) : Nat := (floatBits .quo .f64 (floatOfInt .f64 n) 4652007308841189376).getD 0
def partOk (n : Int) : Bool := (floatBits .quo .f64 (floatOfInt .f64 n) 4652007308841189376).isSome && decide (parts n % Ieee.double.signWeight ≤ (1 + 1023) * 2 ^ 52) &&
  ((FloatKind.f64.format.order (parts n) 4602678819172646912 == some .lt || FloatKind.f64.format.order (parts n) 4602678819172646912 == some .eq) == !(FloatKind.f64.format.order (parts n) 4602678819172646912 == some .gt))
theorem parts_all : (List.range 1001).all (fun n => partOk (n : Int)) = true := by decide +kernel
theorem parts_ok (n : Int) (h0 : ¬ n < 0) (h1 : ¬ 1000 < n) : floatBits .quo .f64 (floatOfInt .f64 n) 4652007308841189376 = some (parts n) ∧ Bd 1 (parts n) ∧
    (FloatKind.f64.format.order (parts n) 4602678819172646912 == some .lt || FloatKind.f64.format.order (parts n) 4602678819172646912 == some .eq) = !(FloatKind.f64.format.order (parts n) 4602678819172646912 == some .gt) := by
  have h := List.all_eq_true.1 parts_all n.toNat (List.mem_range.2 (by omega))
  have e : ((n.toNat : Nat) : Int) = n := by omega
  simp only [e, partOk, Bool.and_eq_true, decide_eq_true_eq, beq_iff_eq] at h
  obtain ⟨⟨h1, h2⟩, h3⟩ := h
  refine ⟨?_, h2, h3⟩
  obtain ⟨r, hr⟩ := Option.isSome_iff_exists.1 h1
  rw [show parts n = r by unfold parts; rw [hr]; rfl]; exact hr
attribute [local irreducible] Bd red green blue parts floatOfInt

set_option maxHeartbeats 2000000 in
theorem fnColour_walk (x y z : Int) (W : World) (wx : (Lit.int .i64 x).wf = true) (wy : (Lit.int .i64 y).wf = true) (wz : (Lit.int .i64 z).wf = true) :
    Calls Try.prog 3 #[.int .i64 x, .int .i64 y, .int .i64 z] W fun e w' => e = .returned (.bool true) ∧ Below W.heap.size W w' := by
  clear wx wy wz
  by_cases hx0 : x < 0
  · go_enter Try.func3, Try.ntmps3
    go_wp2
    all_goals (go_ret; exact ⟨rfl, Below.refl _ _⟩)
  by_cases hx1 : 1000 < x
  · go_enter Try.func3, Try.ntmps3
    go_wp2
    all_goals (go_ret; exact ⟨rfl, Below.refl _ _⟩)
  by_cases hy0 : y < 0
  · go_enter Try.func3, Try.ntmps3
    go_wp2
    all_goals (go_ret; exact ⟨rfl, Below.refl _ _⟩)
  by_cases hy1 : 1000 < y
  · go_enter Try.func3, Try.ntmps3
    go_wp2
    all_goals (go_ret; exact ⟨rfl, Below.refl _ _⟩)
  by_cases hz0 : z < 0
  · go_enter Try.func3, Try.ntmps3
    go_wp2
    all_goals (go_ret; exact ⟨rfl, Below.refl _ _⟩)
  by_cases hz1 : 1000 < z
  · go_enter Try.func3, Try.ntmps3
    go_wp2
    all_goals (go_ret; exact ⟨rfl, Below.refl _ _⟩)
  obtain ⟨qx, bx, _⟩ := parts_ok x hx0 hx1
  obtain ⟨qy, bY, _⟩ := parts_ok y hy0 hy1
  obtain ⟨qz, bz, cz⟩ := parts_ok z hz0 hz1
  have r1 : ∀ w, (binOp .quo 22 (.float .f64 (floatOfInt .f64 x)) (.float .f64 4652007308841189376)).run Try.prog w = .ok (.float .f64 (parts x)) w := fun w => run_float_arith w .quo 22 .f64 _ _ _ qx
  have r2 : ∀ w, (binOp .quo 22 (.float .f64 (floatOfInt .f64 y)) (.float .f64 4652007308841189376)).run Try.prog w = .ok (.float .f64 (parts y)) w := fun w => run_float_arith w .quo 22 .f64 _ _ _ qy
  have r3 : ∀ w, (binOp .quo 22 (.float .f64 (floatOfInt .f64 z)) (.float .f64 4652007308841189376)).run Try.prog w = .ok (.float .f64 (parts z)) w := fun w => run_float_arith w .quo 22 .f64 _ _ _ qz
  have BR := red_bd bx bY bz
  have BG := green_bd bx bY bz
  have BB := blue_bd bx bY bz
  have CZ := hide cz
  clear qx qy qz cz
  go_enter Try.func3, Try.ntmps3
  go_wp2_with (first
    | (go_at_call 4; refine (iCol_any _ _ _ _ bx bY bz).mono ?_; rintro e w1 ⟨rfl, rfl⟩)
    | (go_at_call 5; refine (sCol_any _ _ _ _ bx bY bz CZ.out).mono ?_; rintro e w1 ⟨rfl, rfl⟩)
    | (go_at_call 6; refine (close_self _ 30 _ (by first | exact BR | exact BG | exact BB) (by omega)).mono ?_; rintro e w1 ⟨rfl, rfl⟩))
  go_ret
  exact ⟨rfl, Below.refl _ _⟩
end Go.Proofs.Ytdmkoggjnfhgfaa
