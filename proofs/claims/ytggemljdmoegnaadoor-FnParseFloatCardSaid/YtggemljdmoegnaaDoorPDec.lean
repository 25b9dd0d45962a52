/- The package's reading of a number with a point or none. Conditions: the text begins with digits and a point among them, at most 10^15, at most 20 decimals; the table of powers as laid. (printed by gen_pdec.py) -/
import Derived.Test.YtggemljdmoegnaaDoorScaled
import Derived.Test.YtggemljdmoegnaaDoorPt
import Derived.Test.YtggemljdmoegnaaDoorLen
namespace Go.Proofs.YtggemljdmoegnaaDoor
open Go.RowKit
set_option linter.unusedVariables false

/-- A table of powers of ten. -/
def P10 (G n : Nat) (w : World) : Prop := ∀ i, i < n → ∃ x, w.cell? ⟨G, i, none⟩ = some (.float .f64 x) ∧ Ap 1 false x (10 ^ i) 1
theorem P10.below {G n : Nat} {w w' : World} (h : P10 G n w) (hb : Below w.heap.size w w') : P10 G n w' := fun i hi => by
  obtain ⟨x, hc, ha⟩ := h i hi
  exact ⟨x, (hb.cell (block_lt_of_cell hc)).trans hc, ha⟩
theorem rg_pow {i : Nat} (hi : i ≤ 31) : Rg (10 ^ i) 1 := by
  have := rg_mul (n := 1) (i := i) (by decide) (by decide) hi
  rwa [Nat.one_mul] at this
/-- A float is about a number over a power of ten, or is 0 with it. -/
def About (k n d x : Nat) : Prop := (n = 0 → x = 0) ∧ (0 < n → Ap k false x n (10 ^ d))
theorem ret_fi {x : Nat} {a b : Int} (h : a = b) : Ending.returned (.tuple #[.float .f64 x, .int .i64 a]) = .returned (.tuple #[.float .f64 x, .int .i64 b]) := by rw [h]
def DecRet (n d T : Nat) (w : World) (e : Ending) (w' : World) : Prop := ∃ x, e = .returned (.tuple #[.float .f64 x, .int .i64 (T : Int)]) ∧ About 20 n d x ∧ w = w'
set_option maxRecDepth 100000 in
set_option maxHeartbeats 4000000 in
theorem parseDecimal_any (A : Option Addr) (b P : List UInt8) (c a T d : Nat) (w : World) (bs : BS w A b) (hl : b.length ≤ 2147483647) (hpt : PtText b P a T) (hv : dval P ≤ 1000000000000000) (hd : P.length = a + d) (hd20 : d ≤ 20) (ht : P10 0 23 w) :
    Calls Tryd.prog 15 #[.slice A b.length c] w (DecRet (dval P) d T w) := by
  have h0 : 0 < b.length := by have := hpt.len; have := hpt.tt; have := hpt.a1; have := hpt.aL; split at * <;> omega
  obtain ⟨b0, o0, rfl, z1, z2⟩ := bs.form h0
  clear z1 z2
  obtain ⟨c0, hc0, hc0d⟩ : ∃ c0, b[0]? = some c0 ∧ isDig c0 = true := by
    have h1 := hpt.at1 0 (by have := hpt.a1; omega)
    have hk : 0 < P.length := by have := hpt.a1; have := hpt.aL; omega
    exact ⟨P[0], by rw [h1]; exact List.getElem?_eq_getElem hk, hpt.dig _ (List.getElem_mem hk)⟩
  obtain ⟨b1, o1, e1, cell0⟩ := bs.at_ hc0
  simp only [Option.some.injEq, Addr.mk.injEq, and_true] at e1
  obtain ⟨rfl, rfl⟩ := e1
  rw [Nat.add_zero] at cell0
  have hneg : ((c0.toNat : Int) == 45) = false := by
    rw [beq_eq_false_iff_ne]
    have := dig_ge hc0d
    omega
  have HP := hide hpt
  have HT := hide ht
  have HV := hide hv
  have HD := hide hd
  have Hbs := hide bs
  have haL := hpt.aL
  have htl := hpt.len
  clear hpt ht hv hd hc0 hc0d bs
  go_enter Tryd.func15, Tryd.ntmps15
  go_wp2
  go_loop [4, 6, 7, 8] (fun vi vs vd vn => ∃ (i : Nat) (st dt : Int) (n : Nat), i ≤ T ∧ vi = .int .i64 (i : Int) ∧ vs = .int .i64 st ∧ vd = .int .i64 dt ∧ vn = .int .u64 (n : Int) ∧ Hid (n = dval (P.take (cnt a i))) ∧ Hid (dt = if i ≤ a then -1 else (a : Int)) ∧ Hid ((n = 0 ∧ st = -1) ∨ ∃ s0 : Nat, st = (s0 : Int) ∧ FirstAt P a i n s0)) (fun vi _ _ _ => T - (intOf vi).toNat)
  case atStart => exact ⟨0, -1, -1, 0, Nat.zero_le _, rfl, rfl, rfl, rfl, hide rfl, hide rfl, hide (.inl ⟨rfl, rfl⟩)⟩
  case round =>
    obtain ⟨i, st, dt, n, hi, rfl, rfl, rfl, rfl, hn, hdt, hst⟩ := hrel
    have hn15i : (n : Int) ≤ 1000000000000000 := by have := hn.out; have := dval_take_le P (cnt a i); have := HV.out; omega
    have HN15 : Hid (n ≤ 1000000000000000) := hide (by omega)
    by_cases hlt : i < T
    · rcases HP.out.here hlt with ⟨ha, haP, hb, hcnt⟩ | ⟨hia, c, hb, hPc, hdig, hcnt⟩
      · -- the point
        have hdt1 : dt = -1 := by rw [hdt.out, if_pos (by omega)]
        have Hn' : Hid (n = dval (P.take (cnt a (i + 1)))) := hide (by rw [hcnt]; exact hn.out)
        have Hdt' : Hid (((i : Nat) : Int) = if i + 1 ≤ a then -1 else (a : Int)) := hide (by rw [if_neg (by omega), ha])
        have Hst' : Hid ((n = 0 ∧ st = -1) ∨ ∃ s0 : Nat, st = (s0 : Int) ∧ FirstAt P a (i + 1) n s0) := hide (by
          rcases hst.out with h | ⟨s0, h1, h2⟩
          · exact .inl h
          · exact .inr ⟨s0, h1, h2.dot hcnt⟩)
        subst hdt1
        obtain ⟨b2, o2, e2, cell⟩ := Hbs.out.at_ hb
        simp only [Option.some.injEq, Addr.mk.injEq, and_true] at e2
        obtain ⟨rfl, rfl⟩ := e2
        have cell2 : w.cell? ⟨b0, o0 + i, none⟩ = some (.int .u8 46) := cell
        have hib : i < b.length := by omega
        clear ha haP hb hcnt hn hdt hst cell
        go_wp2
        go_round
        case rel => exact ⟨i + 1, st, i, n, by omega, by go_num, rfl, rfl, rfl, Hn', Hdt', Hst'⟩
        case measure => simp [intOf]; omega
      · -- a digit
        have g1 := dig_ge hdig
        have g2 := dig_le hdig
        have hval := dval_takeS hPc
        rw [← hcnt, ← hn.out] at hval
        have Hval := hide hval
        have Hdt' : Hid (dt = if i + 1 ≤ a then -1 else (a : Int)) := hide (by
          rw [hdt.out]
          by_cases h : i ≤ a
          · rw [if_pos h, if_pos (by omega)]
          · rw [if_neg h, if_neg (by omega)])
        have hn15' : ((n * 10 + (c.toNat - 48) : Nat) : Int) ≤ 1000000000000000 := by have := dval_take_le P (cnt a (i + 1)); have := HV.out; omega
        obtain ⟨b2, o2, e2, cell⟩ := Hbs.out.at_ hb
        simp only [Option.some.injEq, Addr.mk.injEq, and_true] at e2
        obtain ⟨rfl, rfl⟩ := e2
        have hib : i < b.length := by omega
        have HC := hide hcnt
        have Hia := hide hia
        clear hb hPc hdig hcnt hval hia hn hdt
        have HN15' := hide hn15'
        clear hn15'
        rcases hst.out with ⟨h0, hs⟩ | ⟨s0, hs, hF⟩
        · subst h0 hs
          by_cases hz : (c.toNat : Int) = 48
          · have Hz := hide hz
            have hlt49 : ¬ (49 : Int) ≤ (c.toNat : Int) := by omega
            clear hz hst
            go_wp2
            go_round
            case rel => exact ⟨i + 1, -1, dt, 0, by omega, by go_num, rfl, rfl, rfl, hide (by have := Hval.out; have := Hz.out; omega), Hdt', hide (.inl ⟨rfl, rfl⟩)⟩
            case measure => simp [intOf]; omega
          · have hlt49 : (49 : Int) ≤ (c.toNat : Int) := by omega
            have hc48 : ((c.toNat : Int) - 48) = ((c.toNat - 48 : Nat) : Int) := by omega
            have Hc48 := hide hc48
            clear hz hst hc48
            go_wp2
            go_round
            case rel => exact ⟨i + 1, (i : Int), dt, c.toNat - 48, by omega, by go_num, rfl, rfl, by rw [← Hc48.out], hide (by have := Hval.out; omega), Hdt', hide (.inr ⟨i, rfl, FirstAt.new (by omega) (by omega) Hia.out HC.out⟩)⟩
            case measure => simp [intOf]; omega
        · subst hs
          have hnear := hF.near HN15.out
          have hs1 : ((s0 : Int) == -1) = false := by rw [beq_eq_false_iff_ne]; omega
          have hs0 := hF.1
          have h18 : (i : Int) - (s0 : Int) < 18 := by omega
          have hq := HN15'.out
          have hc48 : ((n : Int) * 10 + ((c.toNat : Int) - 48)) = ((n * 10 + (c.toNat - 48) : Nat) : Int) := by omega
          have Hc48 := hide hc48
          have HF := hide hF
          clear hst hc48 hF hnear hq
          go_wp2
          go_round
          case rel => exact ⟨i + 1, (s0 : Int), dt, n * 10 + (c.toNat - 48), by omega, by go_num, rfl, rfl, by rw [← Hc48.out], hide (by have := Hval.out; omega), Hdt', hide (.inr ⟨s0, rfl, HF.out.dig (by omega) HC.out⟩)⟩
          case measure => simp [intOf]; omega
    · obtain rfl : i = T := by omega
      have hnP : n = dval P := by rw [hn.out, HP.out.tle, List.take_length]
      have HnP := hide hnP
      have hTa := HP.out.tt
      have ha1 := HP.out.a1
      have hPd := HD.out
      clear hn hnP hlt
      have hdt0 : ((dt : Int) == 0) = false := by
        rw [beq_eq_false_iff_ne, hdt.out]
        split <;> omega
      have hend : ∀ c, b[i]? = some c → isDig c = false ∧ c ≠ 46 := HP.out.fin

      rcases hst.out with ⟨h0, hs⟩ | ⟨s0, hs, hF⟩
      · subst h0 hs
        clear hst hdt hTa hPd
        by_cases hi1 : i = 1
        · subst hi1
          by_cases hT : 1 < b.length
          · obtain ⟨c, hc⟩ : ∃ c, b[1]? = some c := ⟨_, List.getElem?_eq_getElem hT⟩
            obtain ⟨hcd, hc46⟩ := hend c hc
            obtain ⟨b2, o2, e2, cell⟩ := Hbs.out.at_ hc
            simp only [Option.some.injEq, Addr.mk.injEq, and_true] at e2
            obtain ⟨rfl, rfl⟩ := e2
            have hb46 : ((c.toNat : Int) == 46) = false := by rw [beq_eq_false_iff_ne]; intro e; exact hc46 (UInt8.toNat_inj.1 (by simp; omega))
            have hnd := notdig hcd
            clear hc hcd hc46 hend
            by_cases h48 : (48 : Int) ≤ (c.toNat : Int)
            · have h57 : ¬ (c.toNat : Int) ≤ 57 := by omega
              clear hnd
              go_wp2
              all_goals go_ret2
              all_goals exact ⟨0, ret_fi (by omega), ⟨fun _ => rfl, fun h => by have := HnP.out; omega⟩, rfl⟩
            · clear hnd
              go_wp2
              all_goals go_ret2
              all_goals exact ⟨0, ret_fi (by omega), ⟨fun _ => rfl, fun h => by have := HnP.out; omega⟩, rfl⟩
          · clear hend
            go_wp2
            all_goals go_ret2
            all_goals exact ⟨0, ret_fi (by omega), ⟨fun _ => rfl, fun h => by have := HnP.out; omega⟩, rfl⟩
        · have hi1f : ((i : Int) == 1) = false := by rw [beq_eq_false_iff_ne]; omega
          clear hi1
          by_cases hT : i < b.length
          · obtain ⟨c, hc⟩ : ∃ c, b[i]? = some c := ⟨_, List.getElem?_eq_getElem hT⟩
            obtain ⟨hcd, hc46⟩ := hend c hc
            obtain ⟨b2, o2, e2, cell⟩ := Hbs.out.at_ hc
            simp only [Option.some.injEq, Addr.mk.injEq, and_true] at e2
            obtain ⟨rfl, rfl⟩ := e2
            have hb46 : ((c.toNat : Int) == 46) = false := by rw [beq_eq_false_iff_ne]; intro e; exact hc46 (UInt8.toNat_inj.1 (by simp; omega))
            have hnd := notdig hcd
            clear hc hcd hc46 hend
            by_cases h48 : (48 : Int) ≤ (c.toNat : Int)
            · have h57 : ¬ (c.toNat : Int) ≤ 57 := by omega
              clear hnd
              go_wp2
              all_goals go_ret2
              all_goals exact ⟨0, ret_fi (by omega), ⟨fun _ => rfl, fun h => by have := HnP.out; omega⟩, rfl⟩
            · clear hnd
              go_wp2
              all_goals go_ret2
              all_goals exact ⟨0, ret_fi (by omega), ⟨fun _ => rfl, fun h => by have := HnP.out; omega⟩, rfl⟩
          · clear hend
            go_wp2
            all_goals go_ret2
            all_goals exact ⟨0, ret_fi (by omega), ⟨fun _ => rfl, fun h => by have := HnP.out; omega⟩, rfl⟩
      · subst hs
        have hs1 : ((s0 : Int) == -1) = false := by rw [beq_eq_false_iff_ne]; omega
        obtain ⟨f1, f2, f3, f4⟩ := hF
        have hcT := HP.out.tle
        have Hb0 := hide (ap_int f4 (Nat.le_trans HN15.out (by decide)))
        have HN64 : Hid (n ≤ 18446744073709551615) := hide (by have := HN15.out; omega)
        obtain ⟨r0, hr0, hA0⟩ := ap_one.mul Hb0.out (by omega) (by omega) rg_one (show Rg n 1 from by have := rg_mul (i := 0) f4 HN15.out (by omega); simpa using this)
        rw [Nat.one_mul, Nat.mul_one, Bool.xor_false] at hA0
        have rm := fun w => run_float_arith (P := Tryd.prog) w .mul 26 .f64 4607182418800017408 (floatOfInt .f64 (n : Int)) r0 hr0
        have HA0 := hide hA0
        clear hA0 hr0
        have hdl : (dec n).length ≤ 16 := dec_len_le 15 n (by simp only [Nat.reduceAdd, Nat.reducePow]; have := HN15.out; omega)
        have hab : a ≤ 2147483647 := by split at hTa <;> omega
        by_cases hz : d = 0
        · have ha : a = P.length := by omega
          have hTP : i = P.length := by rw [hTa, if_pos ha]
          have hdtm : dt = -1 := by rw [hdt.out, if_pos (by omega)]
          subst hdtm
          have hlen : (dec n).length + s0 = i := by
            rw [hcT] at f3
            unfold cnt at f3
            rw [if_pos (by omega)] at f3
            omega
          obtain ⟨y, hy, hYA⟩ := HT.out 0 (by omega)
          obtain ⟨r, hr, hA⟩ := HA0.out.mul hYA (by omega) (by omega) (show Rg n 1 from by have := rg_mul (i := 0) f4 HN15.out (by omega); simpa using this) (rg_pow (by omega))
          have r1 := fun w => run_float_arith (P := Tryd.prog) w .mul 26 .f64 r0 y r hr
          have HAB : Hid (Ap 20 false r (dval P) (10 ^ d)) := hide (by
            rw [← HnP.out, hz]
            have := hA.mono (show 1 + 1 + 3 + 1 + 3 ≤ 20 by omega)
            simpa using this)
          have hexp : (i : Int) - (s0 : Int) - ((dec n).length : Int) = 0 := by omega
          have hds : ¬ i < s0 := by omega
          clear hst hdt hr hA hYA f3 hcT hlen hTP hTa hPd ha hz
          by_cases hi1 : i = 1
          · subst hi1
            have hexp1 : (1 : Int) - (s0 : Int) - ((dec n).length : Int) = 0 := by omega
            by_cases hT : 1 < b.length
            · obtain ⟨c, hc⟩ : ∃ c, b[1]? = some c := ⟨_, List.getElem?_eq_getElem hT⟩
              obtain ⟨hcd, hc46⟩ := hend c hc
              obtain ⟨b2, o2, e2, cell⟩ := Hbs.out.at_ hc
              simp only [Option.some.injEq, Addr.mk.injEq, and_true] at e2
              obtain ⟨rfl, rfl⟩ := e2
              have hb46 : ((c.toNat : Int) == 46) = false := by rw [beq_eq_false_iff_ne]; intro e; exact hc46 (UInt8.toNat_inj.1 (by simp; omega))
              have hnd := notdig hcd
              clear hc hcd hc46 hend
              by_cases h48 : (48 : Int) ≤ (c.toNat : Int)
              · have h57 : ¬ (c.toNat : Int) ≤ 57 := by omega
                clear hnd
                go_wp2_with (go_at_call 17; (with_reducible refine (lenUint_any _ _ HN64.out).mono ?_); rintro e w1 ⟨rfl, rfl⟩)
                all_goals go_ret2
                all_goals exact ⟨_, ret_fi (by omega), ⟨fun h => (by have := HnP.out; omega), fun _ => HAB.out⟩, rfl⟩
              · clear hnd
                go_wp2_with (go_at_call 17; (with_reducible refine (lenUint_any _ _ HN64.out).mono ?_); rintro e w1 ⟨rfl, rfl⟩)
                all_goals go_ret2
                all_goals exact ⟨_, ret_fi (by omega), ⟨fun h => (by have := HnP.out; omega), fun _ => HAB.out⟩, rfl⟩
            · clear hend
              go_wp2_with (go_at_call 17; (with_reducible refine (lenUint_any _ _ HN64.out).mono ?_); rintro e w1 ⟨rfl, rfl⟩)
              all_goals go_ret2
              all_goals exact ⟨_, ret_fi (by omega), ⟨fun h => (by have := HnP.out; omega), fun _ => HAB.out⟩, rfl⟩
          · have hi1f : ((i : Int) == 1) = false := by rw [beq_eq_false_iff_ne]; omega
            clear hi1
            by_cases hT : i < b.length
            · obtain ⟨c, hc⟩ : ∃ c, b[i]? = some c := ⟨_, List.getElem?_eq_getElem hT⟩
              obtain ⟨hcd, hc46⟩ := hend c hc
              obtain ⟨b2, o2, e2, cell⟩ := Hbs.out.at_ hc
              simp only [Option.some.injEq, Addr.mk.injEq, and_true] at e2
              obtain ⟨rfl, rfl⟩ := e2
              have hb46 : ((c.toNat : Int) == 46) = false := by rw [beq_eq_false_iff_ne]; intro e; exact hc46 (UInt8.toNat_inj.1 (by simp; omega))
              have hnd := notdig hcd
              clear hc hcd hc46 hend
              by_cases h48 : (48 : Int) ≤ (c.toNat : Int)
              · have h57 : ¬ (c.toNat : Int) ≤ 57 := by omega
                clear hnd
                go_wp2_with (go_at_call 17; (with_reducible refine (lenUint_any _ _ HN64.out).mono ?_); rintro e w1 ⟨rfl, rfl⟩)
                all_goals go_ret2
                all_goals exact ⟨_, ret_fi (by omega), ⟨fun h => (by have := HnP.out; omega), fun _ => HAB.out⟩, rfl⟩
              · clear hnd
                go_wp2_with (go_at_call 17; (with_reducible refine (lenUint_any _ _ HN64.out).mono ?_); rintro e w1 ⟨rfl, rfl⟩)
                all_goals go_ret2
                all_goals exact ⟨_, ret_fi (by omega), ⟨fun h => (by have := HnP.out; omega), fun _ => HAB.out⟩, rfl⟩
            · clear hend
              go_wp2_with (go_at_call 17; (with_reducible refine (lenUint_any _ _ HN64.out).mono ?_); rintro e w1 ⟨rfl, rfl⟩)
              all_goals go_ret2
              all_goals exact ⟨_, ret_fi (by omega), ⟨fun h => (by have := HnP.out; omega), fun _ => HAB.out⟩, rfl⟩
        · have hne : ¬ a = P.length := by omega
          have hTP : i = P.length + 1 := by rw [hTa, if_neg hne]
          have hdtm : dt = (a : Int) := by rw [hdt.out, if_neg (by omega)]
          subst hdtm
          have hi1f : ((i : Int) == 1) = false := by rw [beq_eq_false_iff_ne]; omega
          have hdm1 : ((a : Int) == -1) = false := by rw [beq_eq_false_iff_ne]; omega
          obtain ⟨y, hy, hYA⟩ := HT.out d (by omega)
          obtain ⟨r, hr, hA⟩ := HA0.out.div hYA (by omega) (by omega) (show Rg n 1 from by have := rg_mul (i := 0) f4 HN15.out (by omega); simpa using this) (rg_pow (by omega))
          have r1 := fun w => run_float_arith (P := Tryd.prog) w .quo 26 .f64 r0 y r hr
          have HAB : Hid (Ap 20 false r (dval P) (10 ^ d)) := hide (by
            rw [← HnP.out]
            have := hA.mono (show 1 + 1 + 3 + 1 + 6 ≤ 20 by omega)
            simpa using this)
          have hd1 : 0 < d := by omega
          by_cases hsa : s0 < a
          · have hexp : (a : Int) - (s0 : Int) - ((dec n).length : Int) = -(d : Int) := by
              rw [hcT] at f3
              unfold cnt at f3
              rw [if_pos (by omega)] at f3
              omega
            have hds : ¬ a < s0 := by omega
            clear hst hdt hr hA hYA f3 hcT hTP hTa hPd
            by_cases hT : i < b.length
            · obtain ⟨c, hc⟩ : ∃ c, b[i]? = some c := ⟨_, List.getElem?_eq_getElem hT⟩
              obtain ⟨hcd, hc46⟩ := hend c hc
              obtain ⟨b2, o2, e2, cell⟩ := Hbs.out.at_ hc
              simp only [Option.some.injEq, Addr.mk.injEq, and_true] at e2
              obtain ⟨rfl, rfl⟩ := e2
              have hb46 : ((c.toNat : Int) == 46) = false := by rw [beq_eq_false_iff_ne]; intro e; exact hc46 (UInt8.toNat_inj.1 (by simp; omega))
              have hnd := notdig hcd
              clear hc hcd hc46 hend
              by_cases h48 : (48 : Int) ≤ (c.toNat : Int)
              · have h57 : ¬ (c.toNat : Int) ≤ 57 := by omega
                clear hnd
                go_wp2_with (go_at_call 17; (with_reducible refine (lenUint_any _ _ HN64.out).mono ?_); rintro e w1 ⟨rfl, rfl⟩)
                all_goals go_ret2
                all_goals exact ⟨_, ret_fi (by omega), ⟨fun h => (by have := HnP.out; omega), fun _ => HAB.out⟩, rfl⟩
              · clear hnd
                go_wp2_with (go_at_call 17; (with_reducible refine (lenUint_any _ _ HN64.out).mono ?_); rintro e w1 ⟨rfl, rfl⟩)
                all_goals go_ret2
                all_goals exact ⟨_, ret_fi (by omega), ⟨fun h => (by have := HnP.out; omega), fun _ => HAB.out⟩, rfl⟩
            · clear hend
              go_wp2_with (go_at_call 17; (with_reducible refine (lenUint_any _ _ HN64.out).mono ?_); rintro e w1 ⟨rfl, rfl⟩)
              all_goals go_ret2
              all_goals exact ⟨_, ret_fi (by omega), ⟨fun h => (by have := HnP.out; omega), fun _ => HAB.out⟩, rfl⟩
          · have hexp : (a : Int) - (s0 : Int) - ((dec n).length : Int) = -(d : Int) - 1 := by
              rw [hcT] at f3
              unfold cnt at f3
              rw [if_neg (by omega)] at f3
              omega
            have hds : a < s0 := by omega
            clear hst hdt hr hA hYA f3 hcT hTP hTa hPd
            by_cases hT : i < b.length
            · obtain ⟨c, hc⟩ : ∃ c, b[i]? = some c := ⟨_, List.getElem?_eq_getElem hT⟩
              obtain ⟨hcd, hc46⟩ := hend c hc
              obtain ⟨b2, o2, e2, cell⟩ := Hbs.out.at_ hc
              simp only [Option.some.injEq, Addr.mk.injEq, and_true] at e2
              obtain ⟨rfl, rfl⟩ := e2
              have hb46 : ((c.toNat : Int) == 46) = false := by rw [beq_eq_false_iff_ne]; intro e; exact hc46 (UInt8.toNat_inj.1 (by simp; omega))
              have hnd := notdig hcd
              clear hc hcd hc46 hend
              by_cases h48 : (48 : Int) ≤ (c.toNat : Int)
              · have h57 : ¬ (c.toNat : Int) ≤ 57 := by omega
                clear hnd
                go_wp2_with (go_at_call 17; (with_reducible refine (lenUint_any _ _ HN64.out).mono ?_); rintro e w1 ⟨rfl, rfl⟩)
                all_goals go_ret2
                all_goals exact ⟨_, ret_fi (by omega), ⟨fun h => (by have := HnP.out; omega), fun _ => HAB.out⟩, rfl⟩
              · clear hnd
                go_wp2_with (go_at_call 17; (with_reducible refine (lenUint_any _ _ HN64.out).mono ?_); rintro e w1 ⟨rfl, rfl⟩)
                all_goals go_ret2
                all_goals exact ⟨_, ret_fi (by omega), ⟨fun h => (by have := HnP.out; omega), fun _ => HAB.out⟩, rfl⟩
            · clear hend
              go_wp2_with (go_at_call 17; (with_reducible refine (lenUint_any _ _ HN64.out).mono ?_); rintro e w1 ⟨rfl, rfl⟩)
              all_goals go_ret2
              all_goals exact ⟨_, ret_fi (by omega), ⟨fun h => (by have := HnP.out; omega), fun _ => HAB.out⟩, rfl⟩
end Go.Proofs.YtggemljdmoegnaaDoor
