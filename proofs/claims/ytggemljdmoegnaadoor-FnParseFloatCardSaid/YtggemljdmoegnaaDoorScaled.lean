/- The reference's scaling of a number by a power of ten. Conditions: the number is at most 10^15, the exponent from -50 to 30. -/
import Derived.Test.YtggemljdmoegnaaDoorWNear
import Derived.Test.YtggemljdmoegnaaDoorTen
namespace Go.Proofs.YtggemljdmoegnaaDoor
open Go.RowKit
set_option linter.unusedVariables false

/-- A float is returned, and the world is as it was. -/
def FloatRet (k n a b : Nat) (w : World) (e : Ending) (w' : World) : Prop := ∃ x, e = .returned (.float .f64 x) ∧ Ap k false x n b ∧ w = w'
set_option maxHeartbeats 1000000 in
theorem scaled_up (n q : Nat) (w : World) (h0 : 0 < n) (hn : n ≤ 10 ^ 15) (hq : q ≤ 30) :
    Calls Tryd.prog 10 #[.int .u64 (n : Int), .int .i64 (q : Int)] w fun e w' => (∃ x, e = .returned (.float .f64 x) ∧ Ap 121 false x (n * 10 ^ q) 1) ∧ w = w' := by
  have H0 := hide (ap_int h0 (Nat.le_trans hn (by decide)))
  have Hn := hide hn
  have Hp := hide h0
  clear hn h0
  go_enter Tryd.func10, Tryd.ntmps10
  go_wp2
  go_loop [5, 1] (fun x z => ∃ (j i v : Nat), z = .int .i64 (j : Int) ∧ i + j = q ∧ x = .float .f64 v ∧ Hid (Ap (1 + 4 * i) false v (n * 10 ^ i) 1)) (fun _ z => (intOf z).toNat)
  case atStart => exact ⟨q, 0, _, rfl, by omega, rfl, hide (by have := H0.out; simpa using this)⟩
  case round =>
    obtain ⟨j, i, v, rfl, hij, rfl, hv⟩ := hrel
    by_cases hj : 0 < j
    · obtain ⟨r, hr, hA⟩ := ap_step_mul hv.out (by omega) Hp.out Hn.out (show i ≤ 31 by omega)
      have r1 := fun w => run_float_arith (P := Tryd.prog) w .mul 26 .f64 v cTen r hr
      unfold cTen at r1
      have HA := hide hA
      have hjb : j ≤ 50 := by omega
      have Hij := hide hij
      clear hr hA hij
      go_wp2
      go_round
      case rel => exact ⟨j - 1, i + 1, r, by congr 1; omega, by have := Hij.out; omega, rfl, hide (by have := HA.out; rwa [show 1 + 4 * (i + 1) = 1 + 4 * i + 4 by omega])⟩
      case measure => simp [intOf]; omega
    · obtain rfl : j = 0 := by omega
      obtain rfl : i = q := by omega
      clear hij hj
      go_wp2
      go_loop [5, 1] (fun x z => z = .int .i64 0 ∧ x = .float .f64 v) (fun _ _ => 0)
      case atStart => exact ⟨rfl, rfl⟩
      case round =>
        obtain ⟨rfl, rfl⟩ := hrel
        go_wp2
        go_ret
        exact ⟨⟨v, rfl, hv.out.mono (by omega)⟩, rfl⟩
set_option maxHeartbeats 1000000 in
theorem scaled_down (n q : Nat) (w : World) (h0 : 0 < n) (hn : n ≤ 10 ^ 15) (hq : q ≤ 50) :
    Calls Tryd.prog 10 #[.int .u64 (n : Int), .int .i64 (-(q : Int))] w fun e w' => (∃ x, e = .returned (.float .f64 x) ∧ Ap 351 false x n (10 ^ q)) ∧ w = w' := by
  have H0 := hide (ap_int h0 (Nat.le_trans hn (by decide)))
  have Hn := hide hn
  have Hp := hide h0
  clear hn h0
  go_enter Tryd.func10, Tryd.ntmps10
  go_wp2
  go_loop [5, 1] (fun x z => z = .int .i64 (-(q : Int)) ∧ x = .float .f64 (floatOfInt .f64 (n : Int))) (fun _ _ => 0)
  case atStart => exact ⟨rfl, rfl⟩
  case round =>
    obtain ⟨rfl, rfl⟩ := hrel
    have k0 : ¬ (0 : Int) < -(q : Int) := by omega
    go_wp2
    go_loop [5, 1] (fun x z => ∃ (j i v : Nat), z = .int .i64 (-(j : Int)) ∧ i + j = q ∧ x = .float .f64 v ∧ Hid (Ap (1 + 7 * i) false v n (10 ^ i))) (fun _ z => (-(intOf z)).toNat)
    case atStart => exact ⟨q, 0, _, rfl, by omega, rfl, hide (by have := H0.out; simpa using this)⟩
    case round =>
      obtain ⟨j, i, v, rfl, hij, rfl, hv⟩ := hrel
      by_cases hj : 0 < j
      · obtain ⟨r, hr, hA⟩ := ap_step_div hv.out (by omega) Hp.out Hn.out (show i ≤ 51 by omega)
        have r1 := fun w => run_float_arith (P := Tryd.prog) w .quo 26 .f64 v cTen r hr
        unfold cTen at r1
        have HA := hide hA
        have hjb : j ≤ 50 := by omega
        have Hij := hide hij
        have kj : -(j : Int) < 0 := by omega
        clear hr hA hij
        go_wp2
        go_round
        case rel => exact ⟨j - 1, i + 1, r, by congr 1; omega, by have := Hij.out; omega, rfl, hide (by have := HA.out; rwa [show 1 + 7 * (i + 1) = 1 + 7 * i + 7 by omega])⟩
        case measure => simp [intOf]; omega
      · obtain rfl : j = 0 := by omega
        obtain rfl : i = q := by omega
        clear hij hj
        go_wp2
        go_ret
        exact ⟨⟨v, rfl, hv.out.mono (by omega)⟩, rfl⟩
set_option maxHeartbeats 1000000 in
theorem scaled_zero (z : Int) (w : World) (h1 : -50 ≤ z) (h2 : z ≤ 30) :
    Calls Tryd.prog 10 #[.int .u64 0, .int .i64 z] w fun e w' => e = .returned (.float .f64 0) ∧ w = w' := by
  have i0 := int_zero
  have r1 := fun w => run_float_arith (P := Tryd.prog) w .mul 26 .f64 0 cTen 0 zero_mul_ten
  have r2 := fun w => run_float_arith (P := Tryd.prog) w .quo 26 .f64 0 cTen 0 zero_div_ten
  unfold cTen at r1 r2
  go_enter Tryd.func10, Tryd.ntmps10
  go_wp2
  go_loop [5, 1] (fun x y => ∃ v : Int, y = .int .i64 v ∧ -50 ≤ v ∧ v ≤ 30 ∧ x = .float .f64 0) (fun _ y => (intOf y).toNat)
  case atStart => exact ⟨z, rfl, h1, h2, rfl⟩
  case round =>
    obtain ⟨v, rfl, v1, v2, rfl⟩ := hrel
    by_cases hv : 0 < v
    · go_wp2
      go_round
      case rel => exact ⟨v - 1, rfl, by omega, by omega, rfl⟩
      case measure => simp [intOf]; omega
    · go_wp2
      go_loop [5, 1] (fun x y => ∃ v : Int, y = .int .i64 v ∧ -50 ≤ v ∧ v ≤ 0 ∧ x = .float .f64 0) (fun _ y => (-(intOf y)).toNat)
      case atStart => exact ⟨v, rfl, v1, by omega, rfl⟩
      case round =>
        obtain ⟨u, rfl, u1, u2, rfl⟩ := hrel
        by_cases hu : u < 0
        · go_wp2
          go_round
          case rel => exact ⟨u + 1, rfl, by omega, by omega, rfl⟩
          case measure => simp [intOf]; omega
        · go_wp2
          go_ret
          exact ⟨rfl, rfl⟩
end Go.Proofs.YtggemljdmoegnaaDoor
