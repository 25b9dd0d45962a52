/- Relative errors of floating-point results, over exact whole numbers. No program in sight. -/
import Derived.Test.YtggemljdmoegnaaDoorFlo
namespace Go.Proofs.YtggemljdmoegnaaDoor
open Ieee
set_option linter.unusedVariables false

/-- x is y up to k parts of 2^50. -/
def Rel (k x y : Nat) : Prop := 2 ^ 50 * x ≤ 2 ^ 50 * y + k * y ∧ 2 ^ 50 * y ≤ 2 ^ 50 * x + k * y
theorem Rel.refl (x : Nat) : Rel 0 x x := ⟨by omega, by omega⟩
theorem Rel.mono {a b x y : Nat} (h : Rel a x y) (hab : a ≤ b) : Rel b x y := by
  have := Nat.mul_le_mul_right y hab
  exact ⟨by have := h.1; omega, by have := h.2; omega⟩
theorem Rel.scale {a x y : Nat} (h : Rel a x y) (c : Nat) : Rel a (x * c) (y * c) := by
  have h1 := Nat.mul_le_mul_right c h.1
  have h2 := Nat.mul_le_mul_right c h.2
  simp only [Nat.add_mul, Nat.mul_assoc] at h1 h2
  exact ⟨h1, h2⟩
theorem Rel.cancel {a x y c : Nat} (hc : 0 < c) (h : Rel a (x * c) (y * c)) : Rel a x y := by
  have e1 : (2 ^ 50 * x) * c ≤ (2 ^ 50 * y + a * y) * c := by have := h.1; simp only [Nat.add_mul, Nat.mul_assoc]; exact this
  have e2 : (2 ^ 50 * y) * c ≤ (2 ^ 50 * x + a * y) * c := by have := h.2; simp only [Nat.add_mul, Nat.mul_assoc]; exact this
  exact ⟨Nat.le_of_mul_le_mul_right e1 hc, Nat.le_of_mul_le_mul_right e2 hc⟩
/-- a * y is at most (a + 1) * z where y is about z. -/
theorem Rel.part {a b y z : Nat} (h : Rel b y z) (ha : a ≤ 1000) (hb : b ≤ 1000) : a * y ≤ (a + 1) * z := by
  have h1 := Nat.mul_le_mul_left a h.1
  have hab : a * b ≤ 1000000 := Nat.mul_le_mul ha hb
  have h2 := Nat.mul_le_mul_right z hab
  have e1 : a * (2 ^ 50 * y) = 2 ^ 50 * (a * y) := Nat.mul_left_comm _ _ _
  have e2 : a * (2 ^ 50 * z + b * z) = 2 ^ 50 * (a * z) + a * b * z := by rw [Nat.mul_add, Nat.mul_left_comm, Nat.mul_assoc]
  rw [e1, e2] at h1
  rw [Nat.add_mul, Nat.one_mul]
  generalize a * y = p at *
  generalize a * z = q at *
  generalize a * b * z = r at *
  omega
theorem Rel.trans {a b x y z : Nat} (h : Rel a x y) (h' : Rel b y z) (ha : a ≤ 1000) (hb : b ≤ 1000) : Rel (a + b + 1) x z := by
  have hp := h'.part ha hb
  have e : (a + b + 1) * z = (a + 1) * z + b * z := by rw [← Nat.add_mul]; congr 1; omega
  obtain ⟨h1, h2⟩ := h
  obtain ⟨h3, h4⟩ := h'
  exact ⟨by rw [e]; omega, by rw [e]; omega⟩
theorem Rel.symm {b x y : Nat} (h : Rel b x y) (hb : b ≤ 1000) : Rel (b + 1) y x := by
  obtain ⟨h1, h2⟩ := h
  have k0 : b * y ≤ 1000 * y := Nat.mul_le_mul_right y hb
  have k1 : y ≤ 2 * x := by omega
  have k2 : b * y ≤ (b + 1) * x := by
    have g1 := Nat.mul_le_mul_left b h2
    have g2 : b * (b * y) ≤ 1000 * (1000 * y) := Nat.mul_le_mul hb k0
    rw [Nat.mul_left_comm, Nat.mul_add, Nat.mul_left_comm b (2 ^ 50) x] at g1
    rw [Nat.add_mul, Nat.one_mul]
    generalize b * y = p at *
    generalize b * x = q at *
    generalize b * p = r at *
    omega
  have k3 : (b + 1) * x = b * x + x := by rw [Nat.add_mul, Nat.one_mul]
  have k4 : b * x ≤ 1000 * x := Nat.mul_le_mul_right x hb
  exact ⟨by omega, by omega⟩
theorem Rel.mul {a b x y u v : Nat} (h : Rel a x y) (h' : Rel b u v) (ha : a ≤ 1000) (hb : b ≤ 1000) : Rel (a + b + 1) (x * u) (y * v) := by
  have h1 := h.scale u
  have h2 := h'.scale y
  rw [Nat.mul_comm u, Nat.mul_comm v] at h2
  exact h1.trans h2 ha hb

/-- A great exponent, kept behind a name. -/
def K : Nat := 4000
theorem K_eq : (K : Int) = 4000 := rfl
/-- m * 2^e, times 2^K. -/
def sv (m : Nat) (e : Int) : Nat := m * 2 ^ (e + (K : Int)).toNat
theorem sv_mul {m n : Nat} {i j : Int} (hi : -1900 ≤ i) (hj : -1900 ≤ j) : sv (m * n) (i + j) * 2 ^ K = sv m i * sv n j := by
  have hK := K_eq
  unfold sv
  have e : (i + j + (K : Int)).toNat + K = (i + (K : Int)).toNat + (j + (K : Int)).toNat := by omega
  rw [Nat.mul_assoc, ← Nat.pow_add, e, Nat.pow_add]
  generalize 2 ^ (i + (K : Int)).toNat = x
  generalize 2 ^ (j + (K : Int)).toNat = y
  rw [Nat.mul_assoc, Nat.mul_assoc, Nat.mul_left_comm n x y]
theorem sv_up {m : Nat} {e : Int} {b : Nat} (hm : m ≠ 0) (h : sv m e ≤ 2 ^ b) (he : -4000 ≤ e) : (m.log2 : Int) + e + 4000 ≤ b := by
  have hK := K_eq
  have h1 : 2 ^ m.log2 ≤ m := Nat.log2_self_le hm
  have h2 : 2 ^ m.log2 * 2 ^ (e + (K : Int)).toNat ≤ 2 ^ b := Nat.le_trans (Nat.mul_le_mul_right _ h1) h
  rw [← Nat.pow_add] at h2
  have h3 := (Nat.pow_le_pow_iff_right (show 1 < 2 by omega)).1 h2
  omega
theorem sv_lo {m : Nat} {e : Int} {a : Nat} (h : 2 ^ a ≤ sv m e) (he : -4000 ≤ e) : (a : Int) ≤ (m.log2 : Int) + e + 4000 := by
  have hK := K_eq
  have h1 : m < 2 ^ (m.log2 + 1) := Nat.lt_log2_self
  have h2 : 2 ^ a < 2 ^ (m.log2 + 1) * 2 ^ (e + (K : Int)).toNat := Nat.lt_of_le_of_lt h (Nat.mul_lt_mul_of_pos_right h1 (Nat.two_pow_pos _))
  rw [← Nat.pow_add] at h2
  have h3 := (Nat.pow_lt_pow_iff_right (show 1 < 2 by omega)).1 h2
  omega

theorem cut_near (neg : Bool) (n drop : Nat) (h : drop ≤ n.log2) : n ≤ Toward.even.cut neg n drop * 2 ^ drop + 2 ^ drop ∧ Toward.even.cut neg n drop * 2 ^ drop ≤ n + 2 ^ drop ∧ n / 2 ^ drop ≤ Toward.even.cut neg n drop ∧ Toward.even.cut neg n drop ≤ n / 2 ^ drop + 1 := by
  unfold Toward.cut
  simp only
  rw [Nat.min_eq_left (by omega), Nat.shiftLeft_eq, Nat.one_mul]
  have hb : ∀ b : Bool, b.toNat ≤ 1 := fun b => by cases b <;> decide
  have := hb (2 ^ drop < 2 * (n % 2 ^ drop) || (2 ^ drop == 2 * (n % 2 ^ drop) && n / 2 ^ drop % 2 == 1))
  generalize (2 ^ drop < 2 * (n % 2 ^ drop) || (2 ^ drop == 2 * (n % 2 ^ drop) && n / 2 ^ drop % 2 == 1)).toNat = t at *
  have hd := Nat.div_add_mod n (2 ^ drop)
  have hm := Nat.mod_lt n (Nat.two_pow_pos drop)
  have ht : t * 2 ^ drop ≤ 2 ^ drop := by
    have := Nat.mul_le_mul_right (2 ^ drop) this
    rwa [Nat.one_mul] at this
  rw [Nat.mul_comm] at hd
  rw [Nat.add_mul]
  refine ⟨by omega, by omega, by omega, by omega⟩

/-- What is written of a number that is neither too great nor too small. -/
theorem near_rel (neg : Bool) (m : Nat) (e : Int) (hm : m ≠ 0) (hlo : -900 ≤ (m.log2 : Int) + e) (hhi : (m.log2 : Int) + e ≤ 900) (he : -3900 ≤ e) :
    ∃ m' e', double.read (double.nearest neg m e) = .number neg m' e' ∧ (m.log2 : Int) + e - 52 ≤ e' ∧ e' ≤ (m.log2 : Int) + e ∧ m' ≠ 0 ∧ Rel 1 (sv m' e') (sv m e) := by
  have hK := K_eq
  unfold Format.nearest
  rw [if_neg hm]
  simp only [dbl_bin, dbl_inf, dbl_least, dbl_frac]
  rw [show max (e + (m.log2 : Int) - ((52 : Nat) : Int)) (-1074) = e + (m.log2 : Int) - 52 by omega]
  obtain ⟨last, hlast⟩ : ∃ last, last = e + (m.log2 : Int) - 52 := ⟨_, rfl⟩
  rw [← hlast]
  have hml : 2 ^ m.log2 ≤ m := Nat.log2_self_le hm
  have hmu : m < 2 ^ (m.log2 + 1) := Nat.lt_log2_self
  -- the kept digits
  have hk : 2 ^ 52 ≤ Toward.even.cut neg (m <<< (e - last).toNat) (last - e).toNat ∧ Toward.even.cut neg (m <<< (e - last).toNat) (last - e).toNat ≤ 2 ^ 53 ∧ Rel 1 (sv (Toward.even.cut neg (m <<< (e - last).toNat) (last - e).toNat) last) (sv m e) := by
    by_cases hc : last < e
    · have e0 : (last - e).toNat = 0 := by omega
      rw [e0, cut_zero, Nat.shiftLeft_eq]
      have hsum : m.log2 + (e - last).toNat = 52 := by omega
      refine ⟨?_, ?_, ?_⟩
      · have := Nat.mul_le_mul_right (2 ^ (e - last).toNat) hml
        rwa [← Nat.pow_add, hsum] at this
      · have := Nat.mul_le_mul_right (2 ^ (e - last).toNat) (Nat.le_of_lt hmu)
        rwa [← Nat.pow_add, show m.log2 + 1 + (e - last).toNat = 53 by omega] at this
      · have : sv (m * 2 ^ (e - last).toNat) last = sv m e := by
          unfold sv
          rw [Nat.mul_assoc, ← Nat.pow_add]
          congr 2
          omega
        rw [this]
        exact (Rel.refl _).mono (by omega)
    · have e0 : (e - last).toNat = 0 := by omega
      rw [e0, Nat.shiftLeft_zero]
      obtain ⟨d, hd⟩ : ∃ d, d = (last - e).toNat := ⟨_, rfl⟩
      rw [← hd]
      have hsum : m.log2 = 52 + d := by omega
      obtain ⟨c1, c2, c3, c4⟩ := cut_near neg m d (by omega)
      generalize Toward.even.cut neg m d = kp at *
      rw [hsum] at hml hmu
      have q1 : 2 ^ 52 ≤ m / 2 ^ d := by
        rw [Nat.le_div_iff_mul_le (Nat.two_pow_pos _), ← Nat.pow_add]
        exact hml
      have q2 : m / 2 ^ d < 2 ^ 53 := by
        rw [Nat.div_lt_iff_lt_mul (Nat.two_pow_pos _), ← Nat.pow_add, show 53 + d = 52 + d + 1 by omega]
        exact hmu
      refine ⟨by omega, by omega, ?_⟩
      have hs : sv kp last = (kp * 2 ^ d) * 2 ^ (e + (K : Int)).toNat := by
        unfold sv
        rw [Nat.mul_assoc, ← Nat.pow_add]
        congr 2
        omega
      have hs2 : sv m e = m * 2 ^ (e + (K : Int)).toNat := rfl
      rw [hs, hs2]
      refine Rel.scale ?_ _
      have hml' : 2 ^ 52 * 2 ^ d ≤ m := by rw [← Nat.pow_add]; exact hml
      generalize 2 ^ d = D at *
      generalize kp * D = K at *
      exact ⟨by omega, by omega⟩
  generalize Toward.even.cut neg (m <<< (e - last).toNat) (last - e).toNat = kp at *
  obtain ⟨k1, k2, k3⟩ := hk
  obtain ⟨t, ht⟩ : ∃ t : Nat, (t : Int) = last + 1074 := ⟨(last + 1074).toNat, by omega⟩
  rw [show (last - -1074).toNat = t by omega]
  have htb : t ≤ 2000 := by omega
  have hr : t * 2 ^ 52 + kp < 2047 * 2 ^ 52 := by omega
  rw [Nat.min_eq_left (by omega)]
  have hsgn : ∀ r, r < 2 ^ 63 → (double.word neg r / double.signWeight % 2 == 1) = neg := fun r hr => by
    unfold Format.word
    rw [dbl_sw]
    cases neg
    · simp only [Bool.false_eq_true, if_false]
      rw [Nat.div_eq_of_lt hr]
      rfl
    · simp only [if_true]
      rw [show (2 ^ 63 + r) / 2 ^ 63 = 1 by omega]
      rfl
  have hread : double.read (double.word neg (t * 2 ^ 52 + kp)) = .number neg (2 ^ 52 + (t * 2 ^ 52 + kp) % 2 ^ 52) (-1074 + (((t * 2 ^ 52 + kp) / 2 ^ 52 - 1 : Nat) : Int)) := by
    unfold Format.read
    simp only
    rw [word_mod _ _ (by rw [dbl_sw]; omega), hsgn _ (by omega), dbl_bin, dbl_inf, dbl_least, if_neg (by omega), if_pos hr]
  rw [hread]
  by_cases hc : kp = 2 ^ 53
  · rw [hc, show (t * 2 ^ 52 + 2 ^ 53) % 2 ^ 52 = 0 by omega, show (t * 2 ^ 52 + 2 ^ 53) / 2 ^ 52 - 1 = t + 1 by omega]
    refine ⟨_, _, rfl, by omega, by omega, by omega, ?_⟩
    have : sv (2 ^ 52 + 0) (-1074 + ((t + 1 : Nat) : Int)) = sv kp last := by
      unfold sv
      rw [hc, show (-1074 + ((t + 1 : Nat) : Int) + (K : Int)).toNat = (last + (K : Int)).toNat + 1 by omega]
      have e2 : 2 ^ ((last + (K : Int)).toNat + 1) = 2 ^ (last + (K : Int)).toNat * 2 := Nat.pow_succ ..
      rw [e2]
      generalize 2 ^ (last + (K : Int)).toNat = X
      omega
    rw [this]
    exact k3
  · rw [show (t * 2 ^ 52 + kp) % 2 ^ 52 = kp - 2 ^ 52 by omega, show (t * 2 ^ 52 + kp) / 2 ^ 52 - 1 = t by omega]
    refine ⟨_, _, rfl, by omega, by omega, by omega, ?_⟩
    have : sv (2 ^ 52 + (kp - 2 ^ 52)) (-1074 + (t : Int)) = sv kp last := by
      rw [show 2 ^ 52 + (kp - 2 ^ 52) = kp by omega, show -1074 + (t : Int) = last by omega]
    rw [this]
    exact k3
end Go.Proofs.YtggemljdmoegnaaDoor
