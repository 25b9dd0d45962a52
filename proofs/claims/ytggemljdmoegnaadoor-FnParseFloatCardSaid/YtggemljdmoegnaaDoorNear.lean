/- Floats that are about one fraction differ by next to nothing; signs; how floats stand to each other. No program in sight. -/
import Derived.Test.YtggemljdmoegnaaDoorAp
namespace Go.Proofs.YtggemljdmoegnaaDoor
open Ieee
set_option linter.unusedVariables false
attribute [local irreducible] K

/-- A float with the other sign. -/
def fneg (w : Nat) : Nat := Op.negFloat .f64 w
/-- A word read by its sign and its rung. -/
def rd (neg : Bool) (r : Nat) : Datum :=
  if r < double.binade then .number neg r double.leastPlace
  else if r < double.infRung then .number neg (double.binade + r % double.binade) (double.leastPlace + (r / double.binade - 1 : Nat))
  else if r = double.infRung then .infinity neg else .nan neg (r - double.infRung)
theorem read_rd (w : Nat) : double.read w = rd (w / 2 ^ 63 % 2 == 1) (w % 2 ^ 63) := rfl
theorem rd_not {a s : Bool} {r m : Nat} {e : Int} (h : rd a r = .number s m e) : rd (!a) r = .number (!s) m e := by
  unfold rd at h ⊢
  split at h
  · simp only [Datum.number.injEq] at h
    obtain ⟨rfl, rfl, rfl⟩ := h
    rename_i c
    rw [if_pos c]
  · rename_i c
    rw [if_neg c]
    split at h
    · simp only [Datum.number.injEq] at h
      obtain ⟨rfl, rfl, rfl⟩ := h
      rename_i c2
      rw [if_pos c2]
    · split at h <;> cases h
theorem read_fneg {w m : Nat} {e : Int} {s : Bool} (h : double.read w = .number s m e) : double.read (fneg w) = .number (!s) m e := by
  have hx : fneg w = w ^^^ 2 ^ 63 := rfl
  have h1 : (w ^^^ 2 ^ 63) % 2 ^ 63 = w % 2 ^ 63 := by
    rw [Nat.xor_mod_two_pow, Nat.mod_self, Nat.xor_zero]
  have h2 : ((w ^^^ 2 ^ 63) / 2 ^ 63 % 2 == 1) = !(w / 2 ^ 63 % 2 == 1) := by
    have e0 : (w ^^^ 2 ^ 63) / 2 ^ 63 = w / 2 ^ 63 ^^^ 1 := by
      rw [← Nat.shiftRight_eq_div_pow, Nat.shiftRight_xor_distrib, Nat.shiftRight_eq_div_pow]
      rfl
    have e1 : (w / 2 ^ 63 ^^^ 1) % 2 = w / 2 ^ 63 % 2 ^^^ 1 := Nat.xor_mod_two_pow (n := 1)
    rw [e0, e1]
    rcases Nat.mod_two_eq_zero_or_one (w / 2 ^ 63) with e | e
    · rw [e]; rfl
    · rw [e]; rfl
  rw [read_rd] at h ⊢
  rw [hx, h1, h2]
  exact rd_not h
theorem Ap.neg {k w N D : Nat} {s : Bool} (h : Ap k s w N D) : Ap k (!s) (fneg w) N D := by
  obtain ⟨m, e, h1, h2, h3, h4, h5⟩ := h
  exact ⟨m, e, read_fneg h1, h2, h3, h4, h5⟩
theorem read_zero : double.read 0 = .number false 0 (-1074) := by decide +kernel
theorem cmp_lt {a b : Int} (h : a < b) : compare a b = .lt := by
  show compareOfLessAndEq a b = .lt
  unfold compareOfLessAndEq
  rw [if_pos h]
theorem cmp_eq (a : Int) : compare a a = .eq := by
  show compareOfLessAndEq a a = .eq
  unfold compareOfLessAndEq
  rw [if_neg (by omega), if_pos rfl]
theorem cmp_gt {a b : Int} (h : b < a) : compare a b = .gt := by
  show compareOfLessAndEq a b = .gt
  unfold compareOfLessAndEq
  rw [if_neg (by omega), if_neg (by omega)]
theorem signed_f (m u : Nat) : signed false m u = ((m * 2 ^ u : Nat) : Int) := by unfold signed; rw [Nat.shiftLeft_eq]; rfl
theorem signed_t (m u : Nat) : signed true m u = -((m * 2 ^ u : Nat) : Int) := by unfold signed; rw [Nat.shiftLeft_eq]; rfl
theorem order_sign {d m : Nat} {e : Int} {t : Bool} (h : double.read d = .number t m e) (hm : m ≠ 0) : (double.order d 0 == some .lt) = t := by
  unfold Format.order
  rw [h, read_zero]
  simp only [Datum.order]
  have h0 : signed false 0 (-1074 - min e (-1074)).toNat = 0 := by rw [signed_f]; simp
  rw [h0]
  have hp : 0 < m * 2 ^ (e - min e (-1074)).toNat := Nat.mul_pos (Nat.pos_of_ne_zero hm) (Nat.two_pow_pos _)
  cases t
  · rw [signed_f, cmp_gt (by omega)]
    rfl
  · rw [signed_t, cmp_lt (by omega)]
    rfl
theorem sv_base {m : Nat} {e b : Int} (hb : b ≤ e) (hb2 : -4000 ≤ b) : sv m e = m * 2 ^ (e - b).toNat * 2 ^ (b + (K : Int)).toNat := by
  have hK := K_eq
  unfold sv
  rw [Nat.mul_assoc, ← Nat.pow_add, pow2_eq (show (e + (K : Int)).toNat = (e - b).toNat + (b + (K : Int)).toNat by omega)]
theorem order_le {x y m n : Nat} {e j : Int} (hx : double.read x = .number false m e) (hy : double.read y = .number false n j) (he : -1100 ≤ e) (hj : -1100 ≤ j) (h : sv m e ≤ sv n j) :
    (double.order x y == some .lt || double.order x y == some .eq) = true := by
  unfold Format.order
  rw [hx, hy]
  simp only [Datum.order, signed_f]
  rw [sv_base (b := min e j) (by omega) (by omega), sv_base (m := n) (b := min e j) (by omega) (by omega)] at h
  have h2 := Nat.le_of_mul_le_mul_right h (Nat.two_pow_pos _)
  rcases Nat.lt_or_eq_of_le h2 with h3 | h3
  · rw [cmp_lt (by omega)]
    rfl
  · rw [h3, cmp_eq]
    rfl
/-- The float 1e-12. -/
def cTiny : Nat := 4427486594234968593
theorem ap_tiny : Ap 1 false cTiny 1 1000000000000 := by
  refine ⟨4951760157141521, -92, by decide +kernel, by decide, by decide, by decide, ?_⟩
  have h : Rel 1 (4951760157141521 * 2 ^ 0 * 1000000000000) (1 * 2 ^ 92) := by
    unfold Rel
    decide +kernel
  have := h.scale (2 ^ (K - 92))
  have hK := K_eq
  have e1 : sv 4951760157141521 (-92) = 4951760157141521 * 2 ^ (K - 92) := by
    unfold sv
    rw [pow2_eq (show (-92 + (K : Int)).toNat = K - 92 by omega)]
  have e2 : 2 ^ 92 * 2 ^ (K - 92) = 2 ^ K := by rw [← Nat.pow_add]; exact pow2_eq (by omega)
  rw [e1]
  rw [Nat.mul_assoc 1, e2] at this
  rw [Nat.pow_zero, Nat.mul_one, Nat.mul_right_comm] at this
  exact this
/-- What the difference of two floats about one fraction is. -/
theorem Ap.sub {a b x y N D : Nat} {s : Bool} (h : Ap a s x N D) (h' : Ap b s y N D) (ha : a ≤ 400) (hb : b ≤ 400) (rg : Rg N D) :
    ∃ d t m e, double.sub x y = some d ∧ double.read d = .number t m e ∧ (m = 0 → d = 0) ∧ -1100 ≤ e ∧ 2 ^ 50 * (sv m e * D) ≤ 2 * ((a + b) * (N * 2 ^ K)) := by
  have hK := K_eq
  obtain ⟨m, i, hr, hm, i1, i2, hA⟩ := h
  obtain ⟨n, j, hr', hn, j1, j2, hB⟩ := h'
  obtain ⟨a1, a2⟩ := rg_size (by omega) hA rg
  obtain ⟨b1, b2⟩ := rg_size (by omega) hB rg
  obtain ⟨base, hbase⟩ : ∃ base, min i j = base := ⟨_, rfl⟩
  obtain ⟨tot, htot⟩ : ∃ tot, signed s m (i - base).toNat + signed (!s) n (j - base).toNat = tot := ⟨_, rfl⟩
  have hsub : double.sub x y = some (double.nearest (if tot = 0 then s && !s else tot < 0) tot.natAbs base) := by
    unfold Format.sub
    rw [hr, hr']
    simp only [Datum.opposite, Datum.sum, Option.map_some, hbase, htot]
    rfl
  have sm := sv_base (m := m) (e := i) (b := base) (by omega) (by omega)
  have sn := sv_base (m := n) (e := j) (b := base) (by omega) (by omega)
  obtain ⟨p, hp⟩ : ∃ p, m * 2 ^ (i - base).toNat = p := ⟨_, rfl⟩
  obtain ⟨q, hq⟩ : ∃ q, n * 2 ^ (j - base).toNat = q := ⟨_, rfl⟩
  rw [hp] at sm
  rw [hq] at sn
  have habs : tot.natAbs = (p - q) + (q - p) := by
    cases s
    · rw [signed_f, hp, Bool.not_false, signed_t, hq] at htot
      omega
    · rw [signed_t, hp, Bool.not_true, signed_f, hq] at htot
      omega
  -- the size of the difference
  have hsize : 2 ^ 50 * (sv tot.natAbs base * D) ≤ (a + b) * (N * 2 ^ K) := by
    have e1 : sv tot.natAbs base = (p - q + (q - p)) * 2 ^ (base + (K : Int)).toNat := by unfold sv; rw [habs]
    have e2 : (p - q + (q - p)) * 2 ^ (base + (K : Int)).toNat = (sv m i - sv n j) + (sv n j - sv m i) := by rw [sm, sn, Nat.add_mul, Nat.sub_mul, Nat.sub_mul]
    have e3 : ((sv m i - sv n j) + (sv n j - sv m i)) * D = (sv m i * D - sv n j * D) + (sv n j * D - sv m i * D) := by rw [Nat.add_mul, Nat.sub_mul, Nat.sub_mul]
    rw [e1, e2, e3, Nat.add_mul]
    obtain ⟨c1, c2⟩ := hA
    obtain ⟨d1, d2⟩ := hB
    generalize sv m i * D = X at *
    generalize sv n j * D = Y at *
    generalize N * 2 ^ K = Z at *
    generalize a * Z = aZ at *
    generalize b * Z = bZ at *
    omega
  by_cases h0 : tot = 0
  · refine ⟨0, false, 0, -1074, ?_, read_zero, fun _ => rfl, by omega, ?_⟩
    · rw [hsub, if_pos h0, h0]
      cases s <;> rfl
    · unfold sv
      simp
  · rw [if_neg h0] at hsub
    have hne : tot.natAbs ≠ 0 := by omega
    have up : sv tot.natAbs base ≤ 2 ^ (K + 201) := by
      have e1 : sv tot.natAbs base = (p - q + (q - p)) * 2 ^ (base + (K : Int)).toNat := by unfold sv; rw [habs]
      have e2 : (p - q + (q - p)) * 2 ^ (base + (K : Int)).toNat = (sv m i - sv n j) + (sv n j - sv m i) := by rw [sm, sn, Nat.add_mul, Nat.sub_mul, Nat.sub_mul]
      rw [e1, e2]
      omega
    have u1 := sv_up hne up (by omega)
    obtain ⟨m', e', hread, e1, e2, hm', hR⟩ := near_rel (decide (tot < 0)) tot.natAbs base hne (by omega) (by omega) (by omega)
    refine ⟨_, _, m', e', hsub, hread, fun h => absurd h hm', by omega, ?_⟩
    have h1 := (hR.scale D).1
    omega
/-- Floats about one fraction are near to each other: the difference, its sign, the bound, and that the one is not above the other. -/
theorem near_floats {a b x y N D : Nat} {s : Bool} (h : Ap a s x N D) (h' : Ap b s y N D) (hab : a + b ≤ 400) (rg : Rg N D) :
    ∃ d t p, double.sub x y = some d ∧ (double.order d 0 == some .lt) = t ∧ (double.order y 0 == some .lt) = s ∧ double.mul (if s then fneg y else y) cTiny = some p ∧
      (double.order (if t then fneg d else d) p == some .lt || double.order (if t then fneg d else d) p == some .eq) = true := by
  obtain ⟨d, t, m, e, hd, hrd, hz, he, hsm⟩ := h.sub h' (by omega) (by omega) rg
  have hpos : Ap b false (if s then fneg y else y) N D := by
    cases s
    · exact h'
    · exact h'.neg
  have rgt : Rg 1 1000000000000 := by
    unfold Rg
    decide
  obtain ⟨p, hp, hap⟩ := hpos.mul ap_tiny (by omega) (by omega) rg rgt
  obtain ⟨n, j, hrp, hn, j1, j2, hR⟩ := hap
  have hcmp : sv m e ≤ sv n j := by
    have r2 := hR.2
    rw [Nat.mul_one] at r2
    have hD : 0 < D := rg.2.1
    refine Nat.le_of_mul_le_mul_right (c := D * 1000000000000) ?_ (Nat.mul_pos hD (by decide))
    have e1 : sv m e * (D * 1000000000000) = sv m e * D * 1000000000000 := by rw [Nat.mul_assoc]
    rw [e1]
    have hb2 : (b + 1 + 3) * (N * 2 ^ K) ≤ 500 * (N * 2 ^ K) := Nat.mul_le_mul_right _ (by omega)
    have hab2 : (a + b) * (N * 2 ^ K) ≤ 400 * (N * 2 ^ K) := Nat.mul_le_mul_right _ hab
    generalize sv m e * D = X at *
    generalize sv n j * (D * 1000000000000) = Y at *
    generalize (b + 1 + 3) * (N * 2 ^ K) = u at *
    generalize (a + b) * (N * 2 ^ K) = v at *
    generalize N * 2 ^ K = Z at *
    omega
  have hy : (double.order y 0 == some .lt) = s := by
    obtain ⟨n2, j3, hr2, hn2, _⟩ := h'
    exact order_sign hr2 hn2
  by_cases hm : m = 0
  · have hd0 := hz hm
    subst hd0
    refine ⟨0, false, p, hd, by decide +kernel, hy, hp, ?_⟩
    exact order_le read_zero hrp (by omega) (by omega) (by unfold sv; simp)
  · refine ⟨d, t, p, hd, order_sign hrd hm, hy, hp, ?_⟩
    have hrd2 : double.read (if t then fneg d else d) = .number false m e := by
      cases t
      · exact hrd
      · exact read_fneg hrd
    exact order_le hrd2 hrp he (by omega) hcmp
end Go.Proofs.YtggemljdmoegnaaDoor
