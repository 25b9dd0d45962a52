/- The library's power of ten, and its test for infinity, as far as they are needed. Conditions: the exponent from -50 to 30; the library's tables as laid. -/
import Derived.Test.YtggemljdmoegnaaDoorPDec
import Derived.Laws.Externs
namespace Go.Proofs.YtggemljdmoegnaaDoor
open Go.RowKit
set_option linter.unusedVariables false
attribute [local irreducible] K

/-- The library's tables of powers. -/
structure Pows (w : World) : Prop where
  t1 : P10 3 32 w
  pos : w.cell? ⟨2, 0, none⟩ = some (.float .f64 4607182418800017408)
  neg : w.cell? ⟨4, 0, none⟩ = some (.float .f64 4607182418800017408)
  neg1 : w.cell? ⟨4, 1, none⟩ = some (.float .f64 4128101167230658355)
theorem Pows.below {w w' : World} (h : Pows w) (hb : Below w.heap.size w w') : Pows w' :=
  ⟨h.t1.below hb, (hb.cell (block_lt_of_cell h.pos)).trans h.pos, (hb.cell (block_lt_of_cell h.neg)).trans h.neg, (hb.cell (block_lt_of_cell h.neg1)).trans h.neg1⟩

theorem run_bits (x : Nat) (w : World) : (callFunc 24 #[.float .f64 x]).run Tryd.prog w = .ok (.value (.int .u64 x)) w := by
  rw [run_callFunc_extern Tryd.func24 (by kernel_rfl) (by kernel_rfl) (by kernel_rfl) (e := Extern.MathFloatBits.float64bits) (by kernel_rfl)]
  rfl
theorem run_frombits (x : Int) (w : World) : (callFunc 22 #[.int .u64 x]).run Tryd.prog w = .ok (.value (.float .f64 x.toNat)) w := by
  rw [run_callFunc_extern Tryd.func22 (by kernel_rfl) (by kernel_rfl) (by kernel_rfl) (e := Extern.MathFloatBits.float64frombits) (by kernel_rfl)]
  rfl
theorem abs_any (x : Nat) (w : World) : Calls Tryd.prog 23 #[.float .f64 x] w fun e w' => (∃ y, e = .returned (.float .f64 y)) ∧ w = w' := by
  have r1 := run_bits x
  have r2 := run_frombits
  go_enter Tryd.func23, Tryd.ntmps23
  go_wp2
  go_ret
  exact ⟨⟨_, rfl⟩, rfl⟩
theorem isInf_any (x : Nat) (w : World) : Calls Tryd.prog 21 #[.float .f64 x, .int .i64 0] w fun e w' => (∃ b, e = .returned (.bool b)) ∧ w = w' := by
  go_enter Tryd.func21, Tryd.ntmps21
  go_wp2_with fail
  refine (abs_any x _).mono ?_
  rintro e w1 ⟨⟨y, rfl⟩, rfl⟩
  go_wp2
  go_ret
  exact ⟨⟨_, rfl⟩, rfl⟩
/-- The power is about the power. -/
def PowRet (z : Int) (w : World) (e : Ending) (w' : World) : Prop := ∃ x, e = .returned (.float .f64 x) ∧ Ap 20 false x (10 ^ z.toNat) (10 ^ (-z).toNat) ∧ ∃ q, w' = w.drewN q
theorem ap_neg32 : Ap 8 false 4128101167230658355 1 (10 ^ 32) := by
  refine Ap.mono (a := 1) ⟨7307508186654515, -159, by decide +kernel, by decide, by decide, by decide, ?_⟩ (by omega)
  have h : Rel 1 (7307508186654515 * 2 ^ 0 * 10 ^ 32) (1 * 2 ^ 159) := by
    unfold Rel
    decide +kernel
  have := h.scale (2 ^ (K - 159))
  have hK := K_eq
  have e1 : sv 7307508186654515 (-159) = 7307508186654515 * 2 ^ (K - 159) := by
    unfold sv
    rw [pow2_eq (show (-159 + (K : Int)).toNat = K - 159 by omega)]
  have e2 : 2 ^ 159 * 2 ^ (K - 159) = 2 ^ K := by rw [← Nat.pow_add]; exact pow2_eq (by omega)
  rw [e1]
  rw [Nat.mul_assoc 1, e2] at this
  rw [Nat.pow_zero, Nat.mul_one, Nat.mul_right_comm] at this
  exact this
set_option maxHeartbeats 1000000 in
theorem pow10_up (i : Nat) (w : World) (hi : i ≤ 31) (ht : Pows w) :
    Calls Tryd.prog 19 #[.int .i64 (i : Int)] w (PowRet (i : Int) w) := by
  obtain ⟨y, hy, hA⟩ := ht.t1 i (by omega)
  have hp := ht.pos
  obtain ⟨r, hr, hR⟩ := ap_one.mul hA (by omega) (by omega) rg_one (rg_pow hi)
  have rm := fun w => run_float_arith (P := Tryd.prog) w .mul 26 .f64 4607182418800017408 y r hr
  have HR : Hid (Ap 20 false r (10 ^ (i : Int).toNat) (10 ^ (-(i : Int)).toNat)) := hide (by
    have := hR.mono (show 1 + 1 + 3 ≤ 20 by omega)
    rw [show (i : Int).toNat = i by omega, show (-(i : Int)).toNat = 0 by omega]
    simpa using this)
  have q1 : (i : Int) / 32 = 0 := by omega
  have q2 : (i : Int) % 32 = (i : Int) := by omega
  clear hr hR hA ht
  go_enter Tryd.func19, Tryd.ntmps19
  go_wp2
  go_quiet (fail)
  go_wp2
  go_ret
  exact ⟨_, rfl, HR.out, _, rfl⟩
set_option maxHeartbeats 1000000 in
theorem pow10_down (i : Nat) (w : World) (h0 : 0 < i) (hi : i ≤ 31) (ht : Pows w) :
    Calls Tryd.prog 19 #[.int .i64 (-(i : Int))] w (PowRet (-(i : Int)) w) := by
  obtain ⟨y, hy, hA⟩ := ht.t1 i (by omega)
  have hp := ht.neg
  obtain ⟨r, hr, hR⟩ := ap_one.div hA (by omega) (by omega) rg_one (rg_pow hi)
  have rm := fun w => run_float_arith (P := Tryd.prog) w .quo 26 .f64 4607182418800017408 y r hr
  have HR : Hid (Ap 20 false r (10 ^ (-(i : Int)).toNat) (10 ^ (-(-(i : Int))).toNat)) := hide (by
    have := hR.mono (show 1 + 1 + 6 ≤ 20 by omega)
    rw [show (-(-(i : Int))).toNat = i by omega, show (-(i : Int)).toNat = 0 by omega]
    simpa using this)
  have q1 : (i : Int) / 32 = 0 := by omega
  have q2 : (i : Int) % 32 = (i : Int) := by omega
  clear hr hR hA ht
  go_enter Tryd.func19, Tryd.ntmps19
  go_wp2
  go_quiet (fail)
  go_wp2
  go_ret
  exact ⟨_, rfl, HR.out, _, rfl⟩
set_option maxHeartbeats 1000000 in
theorem pow10_far (i : Nat) (w : World) (h0 : 32 ≤ i) (hi : i ≤ 50) (ht : Pows w) :
    Calls Tryd.prog 19 #[.int .i64 (-(i : Int))] w (PowRet (-(i : Int)) w) := by
  obtain ⟨k, rfl⟩ : ∃ k, i = 32 + k := ⟨i - 32, by omega⟩
  obtain ⟨y, hy, hA⟩ := ht.t1 k (by omega)
  have hp := ht.neg1
  obtain ⟨r, hr, hR⟩ := ap_neg32.div hA (by omega) (by omega) (by unfold Rg; decide) (rg_pow (by omega))
  have rm := fun w => run_float_arith (P := Tryd.prog) w .quo 26 .f64 4128101167230658355 y r hr
  have HR : Hid (Ap 20 false r (10 ^ (-((32 + k : Nat) : Int)).toNat) (10 ^ (-(-((32 + k : Nat) : Int))).toNat)) := hide (by
    have := hR.mono (show 8 + 1 + 6 ≤ 20 by omega)
    rw [show (-(-((32 + k : Nat) : Int))).toNat = 32 + k by omega, show (-((32 + k : Nat) : Int)).toNat = 0 by omega, Nat.pow_add]
    simpa using this)
  have q1 : ((32 + k : Nat) : Int) / 32 = 1 := by omega
  have q2 : ((32 + k : Nat) : Int) % 32 = (k : Int) := by omega
  clear hr hR hA ht
  obtain ⟨n, hn⟩ : ∃ n, 32 + k = n := ⟨_, rfl⟩
  rw [hn] at q1 q2 HR ⊢
  go_enter Tryd.func19, Tryd.ntmps19
  go_wp2
  go_quiet (fail)
  go_wp2
  go_ret
  exact ⟨_, rfl, HR.out, _, rfl⟩
theorem pow10_any (z : Int) (w : World) (h1 : -50 ≤ z) (h2 : z ≤ 30) (ht : Pows w) : Calls Tryd.prog 19 #[.int .i64 z] w (PowRet z w) := by
  by_cases h : 0 ≤ z
  · obtain ⟨i, rfl⟩ := Int.eq_ofNat_of_zero_le h
    exact pow10_up i w (by omega) ht
  · obtain ⟨i, rfl⟩ : ∃ i : Nat, z = -(i : Int) := ⟨z.natAbs, by omega⟩
    by_cases h3 : i ≤ 31
    · exact pow10_down i w (by omega) h3 ht
    · exact pow10_far i w (by omega) (by omega) ht
end Go.Proofs.YtggemljdmoegnaaDoor
