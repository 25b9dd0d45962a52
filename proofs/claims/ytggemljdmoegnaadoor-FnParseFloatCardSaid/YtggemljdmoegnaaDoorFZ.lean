/- Floats about a number times a power of ten, by way of products; zeros. No program in sight. -/
import Derived.Test.YtggemljdmoegnaaDoorTen
import Derived.Test.YtggemljdmoegnaaDoorNear
namespace Go.Proofs.YtggemljdmoegnaaDoor
open Ieee
set_option linter.unusedVariables false
attribute [local irreducible] K

theorem order_ne {k d N D : Nat} {t : Bool} (h : Ap k t d N D) : (double.order d 0 == some .eq) = false := by
  obtain ⟨m, e, h, hm, _⟩ := h
  unfold Format.order
  rw [h, read_zero]
  simp only [Datum.order]
  have h0 : signed false 0 (-1074 - min e (-1074)).toNat = 0 := by rw [signed_f]; simp
  rw [h0]
  have hp : 0 < m * 2 ^ (e - min e (-1074)).toNat := Nat.mul_pos (Nat.pos_of_ne_zero hm) (Nat.two_pow_pos _)
  cases t
  · rw [signed_f, cmp_gt (by omega)]
    rfl
  · rw [signed_t, cmp_lt (by omega)]
    rfl
/-- A float is about n times 10 to the z. -/
def Apz (k : Nat) (s : Bool) (r n : Nat) (z : Int) : Prop := Ap k s r (n * 10 ^ z.toNat) (10 ^ (-z).toNat)
theorem Apz.up {k n i r : Nat} {s : Bool} {z : Int} (h : Ap k s r (n * 10 ^ i) 1) (hk : k ≤ 49) (hz : z = (i : Int)) : Apz 49 s r n z := by
  subst hz
  unfold Apz
  rw [show (i : Int).toNat = i by omega, show (-(i : Int)).toNat = 0 by omega, Nat.pow_zero]
  exact h.mono hk
theorem Apz.down {k n i r : Nat} {s : Bool} {z : Int} (h : Ap k s r n (10 ^ i)) (hk : k ≤ 49) (hz : z = -(i : Int)) : Apz 49 s r n z := by
  subst hz
  unfold Apz
  rw [show (-(i : Int)).toNat = 0 by omega, show (-(-(i : Int))).toNat = i by omega, Nat.pow_zero, Nat.mul_one]
  exact h.mono hk
theorem ten_pos (i : Nat) : 0 < 10 ^ i := Nat.pos_of_ne_zero (by simp)
theorem rg_pows {u v : Nat} (hu : u ≤ 51) (hv : v ≤ 51) : Rg (10 ^ u) (10 ^ v) := by
  have h1 := ten_pos u
  have h2 := ten_pos v
  have h3 : 10 ^ u ≤ 10 ^ 51 := pow10_le hu
  have h4 : 10 ^ v ≤ 10 ^ 51 := pow10_le hv
  refine ⟨h1, h2, ?_, ?_⟩
  · have : 2 ^ 200 * 1 ≤ 2 ^ 200 * 10 ^ v := Nat.mul_le_mul_left _ h2
    omega
  · have : 2 ^ 200 * 1 ≤ 2 ^ 200 * 10 ^ u := Nat.mul_le_mul_left _ h1
    omega
theorem rg_int {n : Nat} (h0 : 0 < n) (hn : n ≤ 10 ^ 15) : Rg n 1 := by
  have := rg_mul (i := 0) h0 hn (by omega)
  simpa using this
/-- One product with a power of ten. -/
theorem apz_one {n f y : Nat} {s : Bool} {z : Int} (h0 : 0 < n) (hn : n ≤ 10 ^ 15) (hf : Ap 1 s f n 1) (hy : Ap 20 false y (10 ^ z.toNat) (10 ^ (-z).toNat)) (z1 : -50 ≤ z) (z2 : z ≤ 30) :
    ∃ r, double.mul f y = some r ∧ Apz 49 s r n z := by
  obtain ⟨r, hr, h⟩ := hf.mul hy (by omega) (by omega) (rg_int h0 hn) (rg_pows (by omega) (by omega))
  rw [Bool.xor_false, Nat.one_mul] at h
  exact ⟨r, hr, h.mono (by omega)⟩
/-- Two products with powers of ten. -/
theorem apz_a {n f y1 d : Nat} {s : Bool} (h0 : 0 < n) (hn : n ≤ 10 ^ 15) (hf : Ap 1 s f n 1) (hy1 : Ap 20 false y1 (10 ^ (-(d : Int)).toNat) (10 ^ (-(-(d : Int))).toNat)) (hd : d ≤ 20) :
    ∃ r1, double.mul f y1 = some r1 ∧ Ap 24 s r1 n (10 ^ d) := by
  rw [show (-(d : Int)).toNat = 0 by omega, show (-(-(d : Int))).toNat = d by omega, Nat.pow_zero] at hy1
  obtain ⟨r1, hr1, h1⟩ := hf.mul hy1 (by omega) (by omega) (rg_int h0 hn) (by have := rg_pows (u := 0) (v := d) (by omega) (by omega); rwa [Nat.pow_zero] at this)
  rw [Bool.xor_false, Nat.one_mul, Nat.mul_one] at h1
  exact ⟨r1, hr1, h1⟩
theorem apz_b {n r1 y2 d : Nat} {s : Bool} {x : Int} (h0 : 0 < n) (hn : n ≤ 10 ^ 15) (h1 : Ap 24 s r1 n (10 ^ d)) (hd : d ≤ 20)
    (hy2 : Ap 20 false y2 (10 ^ x.toNat) (10 ^ (-x).toNat)) (x1 : -30 ≤ x) (x2 : x ≤ 30) :
    ∃ r2, double.mul r1 y2 = some r2 ∧ Apz 49 s r2 n (x - (d : Int)) := by
  obtain ⟨r2, hr2, h2⟩ := h1.mul hy2 (by omega) (by omega) (rg_div h0 hn (by omega)) (rg_pows (by omega) (by omega))
  rw [Bool.xor_false] at h2
  refine ⟨r2, hr2, ?_⟩
  unfold Apz
  refine (h2.mono (show 24 + 20 + 3 ≤ 49 by omega)).same (Nat.mul_pos (ten_pos _) (ten_pos _)) ?_
  rw [Nat.mul_assoc, Nat.mul_assoc, ← Nat.pow_add, ← Nat.pow_add, ← Nat.pow_add]
  congr 2
  omega
/-- A product with one or two powers of the table, a quotient. -/
theorem apz_mul {n f y k : Nat} {s : Bool} {z : Int} (h0 : 0 < n) (hn : n ≤ 10 ^ 15) (hf : Ap 1 s f n 1) (hy : Ap 1 false y (10 ^ k) 1) (hk : k ≤ 22) (hz : z = (k : Int)) :
    ∃ r, double.mul f y = some r ∧ Apz 49 s r n z := by
  obtain ⟨r, hr, h⟩ := hf.mul hy (by omega) (by omega) (rg_int h0 hn) (by have := rg_pows (u := k) (v := 0) (by omega) (by omega); rwa [Nat.pow_zero] at this)
  rw [Bool.xor_false, Nat.mul_one] at h
  exact ⟨r, hr, Apz.up h (by omega) hz⟩
theorem apz_mul2 {n f y y' j : Nat} {s : Bool} {z : Int} (h0 : 0 < n) (hn : n ≤ 10 ^ 15) (hf : Ap 1 s f n 1) (hy : Ap 1 false y (10 ^ j) 1) (hy' : Ap 1 false y' (10 ^ 22) 1) (hj : j ≤ 8) (hz : z = 22 + (j : Int)) :
    ∃ g r, double.mul f y = some g ∧ double.mul g y' = some r ∧ Apz 49 s r n z := by
  obtain ⟨g, hg, h⟩ := hf.mul hy (by omega) (by omega) (rg_int h0 hn) (by have := rg_pows (u := j) (v := 0) (by omega) (by omega); rwa [Nat.pow_zero] at this)
  rw [Bool.xor_false, Nat.mul_one] at h
  obtain ⟨r, hr, h2⟩ := h.mul hy' (by omega) (by omega) (rg_mul h0 hn (by omega)) (by have := rg_pows (u := 22) (v := 0) (by omega) (by omega); rwa [Nat.pow_zero] at this)
  rw [Bool.xor_false, Nat.mul_one, Nat.mul_assoc, ← Nat.pow_add] at h2
  exact ⟨g, r, hg, hr, Apz.up h2 (by omega) (by omega)⟩
theorem apz_div {n f y k : Nat} {s : Bool} {z : Int} (h0 : 0 < n) (hn : n ≤ 10 ^ 15) (hf : Ap 1 s f n 1) (hy : Ap 1 false y (10 ^ k) 1) (hk : k ≤ 22) (hz : z = -(k : Int)) :
    ∃ r, double.div f y = some r ∧ Apz 49 s r n z := by
  obtain ⟨r, hr, h⟩ := hf.div hy (by omega) (by omega) (rg_int h0 hn) (by have := rg_pows (u := k) (v := 0) (by omega) (by omega); rwa [Nat.pow_zero] at this)
  rw [Bool.xor_false, Nat.mul_one, Nat.one_mul] at h
  exact ⟨r, hr, Apz.down h (by omega) hz⟩
theorem apz_nil {n f : Nat} {s : Bool} {z : Int} (hf : Ap 1 s f n 1) (hz : z = 0) : Apz 49 s f n z :=
  Apz.up (i := 0) (by rw [Nat.pow_zero, Nat.mul_one]; exact hf) (by omega) (by omega)
/-- The word of zero with a sign. -/
def zw (s : Bool) : Nat := if s then 9223372036854775808 else 0
/-- What a table's word does to zeros. -/
def okZ (y : Nat) : Bool := double.mul 0 y == some 0 && double.mul 9223372036854775808 y == some 9223372036854775808 && double.div 0 y == some 0 && double.div 9223372036854775808 y == some 9223372036854775808
end Go.Proofs.YtggemljdmoegnaaDoor
