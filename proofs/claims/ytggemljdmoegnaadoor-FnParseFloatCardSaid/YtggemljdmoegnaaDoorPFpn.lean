/- The package's reading of a number with a point, an exponent and a sign: no sign, not zero. Conditions: digits that mean at most 10^15, at most 20 decimals, an exponent from -30 to 30; the tables of powers as laid. (printed by gen_pflo.py) -/
import Derived.Test.YtggemljdmoegnaaDoorPFl
namespace Go.Proofs.YtggemljdmoegnaaDoor
open Go.RowKit
set_option linter.unusedVariables false
theorem apz_at_pn {k r n : Nat} {s : Bool} {z z' : Int} (h : Apz k s r n z) (e : z = z') : Apz k s r n z' := e ▸ h
set_option maxRecDepth 100000 in
set_option maxHeartbeats 12000000 in
theorem pf_pn (A : Option Addr) (b P : List UInt8) (c p I1 L d : Nat) (x : Int) (w : World) (bs : BS w A b) (hl : b.length ≤ 2147483647) (hcap : b.length ≤ c) (hF : FText b P 0 p I1 d) (hv : dval P ≤ 1000000000000000) (hd20 : d ≤ 20) (hE : ETail b I1 x L) (x1 : -30 ≤ x) (x2 : x ≤ 30) (ht : P10 0 23 w) (hpz : PZ 0 23 w) (hp : Pows w) (hn0 : 0 < dval P) :
    Calls Tryd.prog 16 #[.slice A b.length c] w (FRet false (dval P) (x - (d : Int)) L w) := by
  have hqp := hF.qp
  have hI1 := hF.hI
  have hIl := hF.len
  have h0 : 0 < b.length := by split at hI1 <;> omega
  obtain ⟨b0, o0, rfl, z1, z2⟩ := bs.form h0
  clear z1 z2
  obtain ⟨c0, hc0, hc0d⟩ : ∃ c0, b[0]? = some c0 ∧ isDig c0 = true := by
    rcases hF.here 0 (by omega) (by split at hI1 <;> omega) with ⟨h1, _⟩ | ⟨_, c0, h1, _, h2, _⟩
    · omega
    · exact ⟨c0, h1, h2⟩
  obtain ⟨b1, o1, e1, cell0⟩ := bs.at_ hc0
  simp only [Option.some.injEq, Addr.mk.injEq, and_true] at e1
  obtain ⟨rfl, rfl⟩ := e1
  rw [Nat.add_zero] at cell0
  have h43 : ((c0.toNat : Int) == 43) = false := by
    rw [beq_eq_false_iff_ne]
    have := dig_ge hc0d
    omega
  have h45 : ((c0.toNat : Int) == 45) = false := by
    rw [beq_eq_false_iff_ne]
    have := dig_ge hc0d
    omega
  clear hc0 hc0d
  have HF := hide hF
  have HT := hide ht
  have HPZ := hide hpz
  have HPW := hide hp
  have HV := hide hv
  have Hn0 := hide hn0
  have Hbs := hide bs
  have HE := hide hE
  have HI := hide hI1
  have Hqp := hide hqp
  clear hF ht hpz hp hv hn0 bs hE hI1
  go_enter Tryd.func16, Tryd.ntmps16
  go_wp2
  clear cell0 h0 h43 h45
  go_loop [4, 7, 8, 9] (fun vi vd vt vn => ∃ (i : Nat) (dt : Int) (n : Nat), 0 ≤ i ∧ i ≤ I1 ∧ vi = .int .i64 (i : Int) ∧ vt = .int .i64 (-1) ∧ vd = .int .i64 dt ∧ vn = .int .u64 (n : Int) ∧ Hid (n = dval (P.take (ct 0 p i))) ∧ Hid (dt = if i ≤ p then -1 else (p : Int))) (fun vi _ _ _ => I1 - (intOf vi).toNat)
  case atStart => exact ⟨0, -1, 0, Nat.le_refl _, by have := HI.out; split at this <;> omega, rfl, rfl, rfl, rfl, hide (by rw [ct_zero]; rfl), hide (by rw [if_pos (by omega)])⟩
  case round =>
    obtain ⟨i, dt, n, hqi, hi, rfl, rfl, rfl, rfl, hn, hdt⟩ := hrel
    have hn15i : (n : Int) ≤ 1000000000000000 := by have := hn.out; have := dval_take_le P (ct 0 p i); have := HV.out; omega
    have HN15 : Hid (n ≤ 1000000000000000) := hide (by omega)
    by_cases hlt : i < I1
    · rcases HF.out.here i hqi hlt with ⟨ha, hb, hcnt, hd⟩ | ⟨hia, c1, hb, hPc, hdig, hcnt⟩
      · -- the point
        have hdt1 : dt = -1 := by rw [hdt.out, if_pos (by omega)]
        have Hn' : Hid (n = dval (P.take (ct 0 p (i + 1)))) := hide (by rw [hcnt]; exact hn.out)
        have Hdt' : Hid (((i : Nat) : Int) = if i + 1 ≤ p then -1 else (p : Int)) := hide (by rw [if_neg (by omega), ha])
        subst hdt1
        obtain ⟨b2, o2, e2, cell⟩ := Hbs.out.at_ hb
        simp only [Option.some.injEq, Addr.mk.injEq, and_true] at e2
        obtain ⟨rfl, rfl⟩ := e2
        have cell2 : w.cell? ⟨b0, o0 + i, none⟩ = some (.int .u8 46) := cell
        have hib : i < b.length := by omega
        clear ha hb hcnt hn hdt cell hd
        go_wp2
        go_round
        case rel => exact ⟨i + 1, i, n, by omega, by omega, by go_num, rfl, rfl, rfl, Hn', Hdt'⟩
        case measure => simp [intOf]; omega
      · -- a digit
        have g1 := dig_ge hdig
        have g2 := dig_le hdig
        have hval := dval_takeS hPc
        rw [← hcnt, ← hn.out] at hval
        have Hval := hide hval
        have Hdt' : Hid (dt = if i + 1 ≤ p then -1 else (p : Int)) := hide (by
          rw [hdt.out]
          by_cases h : i ≤ p
          · rw [if_pos h, if_pos (by omega)]
          · rw [if_neg h, if_neg (by omega)])
        obtain ⟨b2, o2, e2, cell⟩ := Hbs.out.at_ hb
        simp only [Option.some.injEq, Addr.mk.injEq, and_true] at e2
        obtain ⟨rfl, rfl⟩ := e2
        have hib : i < b.length := by omega
        have hq := HN15.out
        have hc48 : ((n : Int) * 10 + ((c1.toNat : Int) - 48)) = ((n * 10 + (c1.toNat - 48) : Nat) : Int) := by omega
        have Hc48 := hide hc48
        clear hb hPc hdig hcnt hval hia hn hdt hc48 hq
        go_wp2
        go_round
        case rel => exact ⟨i + 1, dt, n * 10 + (c1.toNat - 48), by omega, by omega, by go_num, rfl, rfl, by rw [← Hc48.out], hide (by have := Hval.out; omega), Hdt'⟩
        case measure => simp [intOf]; omega
    · obtain rfl : i = I1 := by omega
      have hnP : n = dval P := by rw [hn.out, HF.out.full, List.take_length]
      have HnP := hide hnP
      have hend := HF.out.fin
      have hi1 := HI.out
      clear hn hnP hlt
      have hi0 : ((i : Int) == 0) = false := by rw [beq_eq_false_iff_ne]; split at hi1 <;> omega
      have Hn1 : Hid (0 < n) := hide (by have := Hn0.out; have := HnP.out; omega)
      have Hn15 : Hid (n ≤ 10 ^ 15) := hide (by have := HN15.out; simp only [Nat.reducePow]; omega)
      obtain ⟨f0, hf⟩ : ∃ f0, floatOfInt .f64 (n : Int) = f0 := ⟨_, rfl⟩
      have HA0 : Hid (Ap 1 false f0 n 1) := hide (by rw [← hf]; exact ap_int Hn1.out (Nat.le_trans HN15.out (by decide)))
      have HFA := HA0
      have hfz : (FloatKind.f64.format.order f0 0 == some .eq) = false := order_ne HFA.out
      by_cases hd0 : d = 0
      · obtain rfl : dt = -1 := by rw [hdt.out, if_pos (by rw [if_pos hd0] at hi1; omega)]
        have Hd0 := hide hd0
        clear hdt hi1 hd0
        cases hi1b : ((i : Int) == 1) with
        | true =>
          rcases HE.out with ⟨hx, hL, hno⟩ | hE
          · have Hno := hide hno
            have HL := hide hL
            clear hno hL
            subst hx
            by_cases hT : i < b.length
            · obtain ⟨c2, hc⟩ : ∃ c2, b[i]? = some c2 := ⟨_, List.getElem?_eq_getElem hT⟩
              obtain ⟨hcd, hc46⟩ := hend c2 hc
              obtain ⟨hc101, hc69⟩ := Hno.out c2 hc
              obtain ⟨b2, o2, e2, cell⟩ := Hbs.out.at_ hc
              simp only [Option.some.injEq, Addr.mk.injEq, and_true] at e2
              obtain ⟨rfl, rfl⟩ := e2
              have hb46 : ((c2.toNat : Int) == 46) = false := by rw [beq_eq_false_iff_ne]; intro e; exact hc46 (UInt8.toNat_inj.1 (by simp; omega))
              have hb101 : ((c2.toNat : Int) == 101) = false := by rw [beq_eq_false_iff_ne]; intro e; exact hc101 (UInt8.toNat_inj.1 (by simp; omega))
              have hb69 : ((c2.toNat : Int) == 69) = false := by rw [beq_eq_false_iff_ne]; intro e; exact hc69 (UInt8.toNat_inj.1 (by simp; omega))
              have hnd := notdig hcd
              clear hc hcd hc46 hend hc101 hc69
              by_cases h48 : (48 : Int) ≤ (c2.toNat : Int)
              · have h57 : ¬ (c2.toNat : Int) ≤ 57 := by omega
                clear hnd
                have HAB := hide (apz_nil (z := (0 : Int) - (d : Int)) HFA.out (by first | omega | (have := Hd0.out; omega)))
                go_wp2
                all_goals go_ret2
                all_goals first | exact ⟨_, ret_fi (by first | omega | (have := HL.out; omega)), ⟨fun h => by have := Hn0.out; omega, fun _ => by rw [← HnP.out]; exact apz_at_pn HAB.out (by omega)⟩, 0, rfl⟩ | exact ⟨_, ret_fi (by first | omega | (have := HL.out; omega)), ⟨fun h => by have := Hn0.out; omega, fun _ => by rw [← HnP.out]; exact apz_at_pn HAB.out (by omega)⟩, _, rfl⟩
              · clear hnd
                have HAB := hide (apz_nil (z := (0 : Int) - (d : Int)) HFA.out (by first | omega | (have := Hd0.out; omega)))
                go_wp2
                all_goals go_ret2
                all_goals first | exact ⟨_, ret_fi (by first | omega | (have := HL.out; omega)), ⟨fun h => by have := Hn0.out; omega, fun _ => by rw [← HnP.out]; exact apz_at_pn HAB.out (by omega)⟩, 0, rfl⟩ | exact ⟨_, ret_fi (by first | omega | (have := HL.out; omega)), ⟨fun h => by have := Hn0.out; omega, fun _ => by rw [← HnP.out]; exact apz_at_pn HAB.out (by omega)⟩, _, rfl⟩
            · clear hend
              have HAB := hide (apz_nil (z := (0 : Int) - (d : Int)) HFA.out (by first | omega | (have := Hd0.out; omega)))
              go_wp2
              all_goals go_ret2
              all_goals first | exact ⟨_, ret_fi (by first | omega | (have := HL.out; omega)), ⟨fun h => by have := Hn0.out; omega, fun _ => by rw [← HnP.out]; exact apz_at_pn HAB.out (by omega)⟩, 0, rfl⟩ | exact ⟨_, ret_fi (by first | omega | (have := HL.out; omega)), ⟨fun h => by have := Hn0.out; omega, fun _ => by rw [← HnP.out]; exact apz_at_pn HAB.out (by omega)⟩, _, rfl⟩
          · skip
            obtain ⟨r, hr, hrd, hL⟩ := hE
            have HL0 := hide hL
            have Hrd := hide hrd
            have hb101 : b[i]? = some 101 := by have := congrArg (·[0]?) hr; simpa using this
            have hdr : b.drop (i + 1) = decI x ++ r := by rw [← List.drop_drop, hr]; rfl
            have hT : i < b.length := (List.getElem?_eq_some_iff.1 hb101).1
            obtain ⟨b2, o2, e2, cell⟩ := Hbs.out.at_ hb101
            simp only [Option.some.injEq, Addr.mk.injEq, and_true] at e2
            obtain ⟨rfl, rfl⟩ := e2
            have cell2 : w.cell? ⟨b0, o0 + i, none⟩ = some (.int .u8 101) := cell
            have hbl : (decI x ++ r).length = b.length - (i + 1) := by rw [← hdr]; simp
            have Hbl := hide hbl
            have HB2 : Hid (BS w (some ⟨b0, o0 + (i + 1), none⟩) (decI x ++ r)) := hide (hdr ▸ Hbs.out.cut rfl (i + 1))
            have hib2 : i + 1 < b.length := by have h1 := decI_pos_len x; have h2 := hbl; rw [List.length_append] at h2; omega
            have hcne : ¬ c = i + 1 := by omega
            have hmb : i + 1 + (decI x).length ≤ b.length := by have h2 := hbl; rw [List.length_append] at h2; omega
            have Hmb := hide hmb
            have Hm := hide (decI_pos_len x)
            clear hr hrd hL hb101 hdr cell hend hbl hmb
            go_wp2_with fail
            refine (parseInt_dec _ x r _ _ _ (Hbl.out.trans (by omega)) HB2.out (by omega) Hrd.out (by omega) (by omega)).mono ?_
            rintro e w1 ⟨rfl, rfl⟩
            obtain ⟨m, hm⟩ : ∃ m, (decI x).length = m := ⟨_, rfl⟩
            have hm0 : 0 < m := by have := Hm.out; omega
            have HL := hide (show L = i + 1 + m by have := HL0.out; omega)
            have hmb : i + 1 + m ≤ b.length := by have := Hmb.out; omega
            rw [hm]
            clear hm Hm HB2 Hrd Hbl Hmb HL0
            by_cases zz : x - (d : Int) = 0
            · obtain rfl : x = 0 := by have := Hd0.out; first | omega | (have := Hd0.out; omega)
              have HAB := hide (apz_nil (z := (0 : Int) - (d : Int)) HFA.out (by first | omega | (have := Hd0.out; omega)))
              go_wp2
              all_goals go_ret2
              all_goals first | exact ⟨_, ret_fi (by first | omega | (have := HL.out; omega)), ⟨fun h => by have := Hn0.out; omega, fun _ => by rw [← HnP.out]; exact apz_at_pn HAB.out (by omega)⟩, 0, rfl⟩ | exact ⟨_, ret_fi (by first | omega | (have := HL.out; omega)), ⟨fun h => by have := Hn0.out; omega, fun _ => by rw [← HnP.out]; exact apz_at_pn HAB.out (by omega)⟩, _, rfl⟩
            · by_cases zp : 0 < x - (d : Int)
              · by_cases zf : x - (d : Int) ≤ 22
                · obtain ⟨k, hxz⟩ : ∃ k : Nat, x = (k : Int) := ⟨(x - (d : Int)).toNat, by first | omega | (have := Hd0.out; omega)⟩
                  have hk0 : ((k : Int) == 0) = false := by rw [beq_eq_false_iff_ne]; first | omega | (have := Hd0.out; omega)
                  have hk1 : (0 : Int) < (k : Int) := by first | omega | (have := Hd0.out; omega)
                  have hk2 : (k : Int) ≤ 22 := by first | omega | (have := Hd0.out; omega)
                  subst hxz
                  obtain ⟨y, hy, hYA⟩ := HT.out (k) (by omega)
                  obtain ⟨r, hr, hAB⟩ := apz_mul (z := (k : Int) - (d : Int)) Hn1.out Hn15.out HFA.out hYA (by omega) (by first | omega | (have := Hd0.out; omega))
                  have rm := fun w => run_float_arith (P := Tryd.prog) w .mul 26 .f64 f0 y r hr
                  have HAB := hide hAB
                  clear hr hAB hYA
                  cases ht1 : (FloatKind.f64.format.order 14054727237768577024 f0 == some .lt || FloatKind.f64.format.order 14054727237768577024 f0 == some .eq) with
                  | true =>
                    cases ht2 : (FloatKind.f64.format.order f0 4831355200913801216 == some .lt || FloatKind.f64.format.order f0 4831355200913801216 == some .eq) with
                    | true =>
                      go_wp2
                      all_goals go_ret2
                      all_goals first | exact ⟨_, ret_fi (by first | omega | (have := HL.out; omega)), ⟨fun h => by have := Hn0.out; omega, fun _ => by rw [← HnP.out]; exact apz_at_pn HAB.out (by omega)⟩, 0, rfl⟩ | exact ⟨_, ret_fi (by first | omega | (have := HL.out; omega)), ⟨fun h => by have := Hn0.out; omega, fun _ => by rw [← HnP.out]; exact apz_at_pn HAB.out (by omega)⟩, _, rfl⟩
                    | false =>
                      go_wp2_with fail
                      refine (pow10_at _ (-(d : Int)) _ (by first | omega | (have := Hd0.out; omega)) (by omega) (by omega) (by first | exact HPW.out | exact HPW.out.drewN _)).mono ?_
                      rintro e w1 ⟨y1, rfl, hy1, q1, rfl⟩
                      obtain ⟨r1, hr1, hA1⟩ := apz_a Hn1.out Hn15.out HFA.out hy1 hd20
                      have rm1 := fun w => run_float_arith (P := Tryd.prog) w .mul 26 .f64 f0 y1 r1 hr1
                      have HA1 := hide hA1
                      clear hr1 hA1 hy1
                      go_wp2_with fail
                      refine (pow10_at _ ((k : Int)) _ (by first | omega | (have := Hd0.out; omega)) (by omega) (by omega) (by first | exact HPW.out | exact HPW.out.drewN _)).mono ?_
                      rintro e w2 ⟨y2, rfl, hy2, q2, rfl⟩
                      obtain ⟨r2, hr2, hA2⟩ := apz_b Hn1.out Hn15.out HA1.out hd20 hy2 x1 x2
                      have rm2 := fun w => run_float_arith (P := Tryd.prog) w .mul 26 .f64 r1 y2 r2 hr2
                      have HA2 := hide hA2
                      clear hr2 hA2 hy2
                      cases hte : (FloatKind.f64.format.order r2 0 == some .eq) with
                      | true =>
                        go_wp2_with fail
                        refine (pow10_at _ ((k : Int) - (d : Int)) _ (by first | omega | (have := Hd0.out; omega)) (by omega) (by omega) (by first | exact HPW.out | exact HPW.out.drewN _)).mono ?_
                        rintro e w3 ⟨y3, rfl, hy3, q3, rfl⟩
                        obtain ⟨r3, hr3, hA3⟩ := apz_one Hn1.out Hn15.out HFA.out hy3 (by omega) (by omega)
                        have rm3 := fun w => run_float_arith (P := Tryd.prog) w .mul 26 .f64 f0 y3 r3 hr3
                        have HA3 := hide hA3
                        clear hr3 hA3 hy3
                        go_wp2
                        all_goals go_ret2
                        all_goals first | exact ⟨_, ret_fi (by first | omega | (have := HL.out; omega)), ⟨fun h => by have := Hn0.out; omega, fun _ => by rw [← HnP.out]; exact apz_at_pn HA3.out (by omega)⟩, 0, rfl⟩ | exact ⟨_, ret_fi (by first | omega | (have := HL.out; omega)), ⟨fun h => by have := Hn0.out; omega, fun _ => by rw [← HnP.out]; exact apz_at_pn HA3.out (by omega)⟩, _, rfl⟩
                      | false =>
                        go_wp2_with fail
                        refine (isInf_any _ _).mono ?_
                        rintro e w3 ⟨⟨tb, rfl⟩, rfl⟩
                        cases tb
                        · skip
                          go_wp2
                          all_goals go_ret2
                          all_goals first | exact ⟨_, ret_fi (by first | omega | (have := HL.out; omega)), ⟨fun h => by have := Hn0.out; omega, fun _ => by rw [← HnP.out]; exact apz_at_pn HA2.out (by omega)⟩, 0, rfl⟩ | exact ⟨_, ret_fi (by first | omega | (have := HL.out; omega)), ⟨fun h => by have := Hn0.out; omega, fun _ => by rw [← HnP.out]; exact apz_at_pn HA2.out (by omega)⟩, _, rfl⟩
                        · skip
                          go_wp2_with fail
                          refine (pow10_at _ ((k : Int) - (d : Int)) _ (by first | omega | (have := Hd0.out; omega)) (by omega) (by omega) (by first | exact HPW.out | exact HPW.out.drewN _)).mono ?_
                          rintro e w3 ⟨y3, rfl, hy3, q3, rfl⟩
                          obtain ⟨r3, hr3, hA3⟩ := apz_one Hn1.out Hn15.out HFA.out hy3 (by omega) (by omega)
                          have rm3 := fun w => run_float_arith (P := Tryd.prog) w .mul 26 .f64 f0 y3 r3 hr3
                          have HA3 := hide hA3
                          clear hr3 hA3 hy3
                          go_wp2
                          all_goals go_ret2
                          all_goals first | exact ⟨_, ret_fi (by first | omega | (have := HL.out; omega)), ⟨fun h => by have := Hn0.out; omega, fun _ => by rw [← HnP.out]; exact apz_at_pn HA3.out (by omega)⟩, 0, rfl⟩ | exact ⟨_, ret_fi (by first | omega | (have := HL.out; omega)), ⟨fun h => by have := Hn0.out; omega, fun _ => by rw [← HnP.out]; exact apz_at_pn HA3.out (by omega)⟩, _, rfl⟩
                  | false =>
                    go_wp2_with fail
                    refine (pow10_at _ (-(d : Int)) _ (by first | omega | (have := Hd0.out; omega)) (by omega) (by omega) (by first | exact HPW.out | exact HPW.out.drewN _)).mono ?_
                    rintro e w1 ⟨y1, rfl, hy1, q1, rfl⟩
                    obtain ⟨r1, hr1, hA1⟩ := apz_a Hn1.out Hn15.out HFA.out hy1 hd20
                    have rm1 := fun w => run_float_arith (P := Tryd.prog) w .mul 26 .f64 f0 y1 r1 hr1
                    have HA1 := hide hA1
                    clear hr1 hA1 hy1
                    go_wp2_with fail
                    refine (pow10_at _ ((k : Int)) _ (by first | omega | (have := Hd0.out; omega)) (by omega) (by omega) (by first | exact HPW.out | exact HPW.out.drewN _)).mono ?_
                    rintro e w2 ⟨y2, rfl, hy2, q2, rfl⟩
                    obtain ⟨r2, hr2, hA2⟩ := apz_b Hn1.out Hn15.out HA1.out hd20 hy2 x1 x2
                    have rm2 := fun w => run_float_arith (P := Tryd.prog) w .mul 26 .f64 r1 y2 r2 hr2
                    have HA2 := hide hA2
                    clear hr2 hA2 hy2
                    cases hte : (FloatKind.f64.format.order r2 0 == some .eq) with
                    | true =>
                      go_wp2_with fail
                      refine (pow10_at _ ((k : Int) - (d : Int)) _ (by first | omega | (have := Hd0.out; omega)) (by omega) (by omega) (by first | exact HPW.out | exact HPW.out.drewN _)).mono ?_
                      rintro e w3 ⟨y3, rfl, hy3, q3, rfl⟩
                      obtain ⟨r3, hr3, hA3⟩ := apz_one Hn1.out Hn15.out HFA.out hy3 (by omega) (by omega)
                      have rm3 := fun w => run_float_arith (P := Tryd.prog) w .mul 26 .f64 f0 y3 r3 hr3
                      have HA3 := hide hA3
                      clear hr3 hA3 hy3
                      go_wp2
                      all_goals go_ret2
                      all_goals first | exact ⟨_, ret_fi (by first | omega | (have := HL.out; omega)), ⟨fun h => by have := Hn0.out; omega, fun _ => by rw [← HnP.out]; exact apz_at_pn HA3.out (by omega)⟩, 0, rfl⟩ | exact ⟨_, ret_fi (by first | omega | (have := HL.out; omega)), ⟨fun h => by have := Hn0.out; omega, fun _ => by rw [← HnP.out]; exact apz_at_pn HA3.out (by omega)⟩, _, rfl⟩
                    | false =>
                      go_wp2_with fail
                      refine (isInf_any _ _).mono ?_
                      rintro e w3 ⟨⟨tb, rfl⟩, rfl⟩
                      cases tb
                      · skip
                        go_wp2
                        all_goals go_ret2
                        all_goals first | exact ⟨_, ret_fi (by first | omega | (have := HL.out; omega)), ⟨fun h => by have := Hn0.out; omega, fun _ => by rw [← HnP.out]; exact apz_at_pn HA2.out (by omega)⟩, 0, rfl⟩ | exact ⟨_, ret_fi (by first | omega | (have := HL.out; omega)), ⟨fun h => by have := Hn0.out; omega, fun _ => by rw [← HnP.out]; exact apz_at_pn HA2.out (by omega)⟩, _, rfl⟩
                      · skip
                        go_wp2_with fail
                        refine (pow10_at _ ((k : Int) - (d : Int)) _ (by first | omega | (have := Hd0.out; omega)) (by omega) (by omega) (by first | exact HPW.out | exact HPW.out.drewN _)).mono ?_
                        rintro e w3 ⟨y3, rfl, hy3, q3, rfl⟩
                        obtain ⟨r3, hr3, hA3⟩ := apz_one Hn1.out Hn15.out HFA.out hy3 (by omega) (by omega)
                        have rm3 := fun w => run_float_arith (P := Tryd.prog) w .mul 26 .f64 f0 y3 r3 hr3
                        have HA3 := hide hA3
                        clear hr3 hA3 hy3
                        go_wp2
                        all_goals go_ret2
                        all_goals first | exact ⟨_, ret_fi (by first | omega | (have := HL.out; omega)), ⟨fun h => by have := Hn0.out; omega, fun _ => by rw [← HnP.out]; exact apz_at_pn HA3.out (by omega)⟩, 0, rfl⟩ | exact ⟨_, ret_fi (by first | omega | (have := HL.out; omega)), ⟨fun h => by have := Hn0.out; omega, fun _ => by rw [← HnP.out]; exact apz_at_pn HA3.out (by omega)⟩, _, rfl⟩
                · obtain ⟨k, hxz⟩ : ∃ k : Nat, x = (k : Int) := ⟨(x - (d : Int)).toNat, by first | omega | (have := Hd0.out; omega)⟩
                  obtain ⟨j, hj⟩ : ∃ j : Nat, (k : Int) - 22 = (j : Int) := ⟨((k : Int) - 22).toNat, by first | omega | (have := Hd0.out; omega)⟩
                  have hk0 : ((k : Int) == 0) = false := by rw [beq_eq_false_iff_ne]; first | omega | (have := Hd0.out; omega)
                  have hk1 : (22 : Int) < (k : Int) := by first | omega | (have := Hd0.out; omega)
                  have hk2 : (k : Int) ≤ 30 := by first | omega | (have := Hd0.out; omega)
                  have hj8 : j ≤ 8 := by first | omega | (have := Hd0.out; omega)
                  subst hxz
                  obtain ⟨y, hy, hYA⟩ := HT.out (j) (by omega)
                  obtain ⟨u, hu, hUA⟩ := HT.out (22) (by omega)
                  obtain ⟨g, r, hg, hr, hAB⟩ := apz_mul2 (z := (k : Int) - (d : Int)) Hn1.out Hn15.out HFA.out hYA hUA (by omega) (by first | omega | (have := Hd0.out; omega))
                  have rm := fun w => run_float_arith (P := Tryd.prog) w .mul 26 .f64 f0 y g hg
                  have rn := fun w => run_float_arith (P := Tryd.prog) w .mul 26 .f64 g u r hr
                  have HAB := hide hAB
                  clear hg hr hAB hYA hUA
                  cases ht1 : (FloatKind.f64.format.order 14054727237768577024 g == some .lt || FloatKind.f64.format.order 14054727237768577024 g == some .eq) with
                  | true =>
                    cases ht2 : (FloatKind.f64.format.order g 4831355200913801216 == some .lt || FloatKind.f64.format.order g 4831355200913801216 == some .eq) with
                    | true =>
                      go_wp2
                      all_goals go_ret2
                      all_goals first | exact ⟨_, ret_fi (by first | omega | (have := HL.out; omega)), ⟨fun h => by have := Hn0.out; omega, fun _ => by rw [← HnP.out]; exact apz_at_pn HAB.out (by omega)⟩, 0, rfl⟩ | exact ⟨_, ret_fi (by first | omega | (have := HL.out; omega)), ⟨fun h => by have := Hn0.out; omega, fun _ => by rw [← HnP.out]; exact apz_at_pn HAB.out (by omega)⟩, _, rfl⟩
                    | false =>
                      go_wp2_with fail
                      refine (pow10_at _ (-(d : Int)) _ (by first | omega | (have := Hd0.out; omega)) (by omega) (by omega) (by first | exact HPW.out | exact HPW.out.drewN _)).mono ?_
                      rintro e w1 ⟨y1, rfl, hy1, q1, rfl⟩
                      obtain ⟨r1, hr1, hA1⟩ := apz_a Hn1.out Hn15.out HFA.out hy1 hd20
                      have rm1 := fun w => run_float_arith (P := Tryd.prog) w .mul 26 .f64 f0 y1 r1 hr1
                      have HA1 := hide hA1
                      clear hr1 hA1 hy1
                      go_wp2_with fail
                      refine (pow10_at _ ((k : Int)) _ (by first | omega | (have := Hd0.out; omega)) (by omega) (by omega) (by first | exact HPW.out | exact HPW.out.drewN _)).mono ?_
                      rintro e w2 ⟨y2, rfl, hy2, q2, rfl⟩
                      obtain ⟨r2, hr2, hA2⟩ := apz_b Hn1.out Hn15.out HA1.out hd20 hy2 x1 x2
                      have rm2 := fun w => run_float_arith (P := Tryd.prog) w .mul 26 .f64 r1 y2 r2 hr2
                      have HA2 := hide hA2
                      clear hr2 hA2 hy2
                      cases hte : (FloatKind.f64.format.order r2 0 == some .eq) with
                      | true =>
                        go_wp2_with fail
                        refine (pow10_at _ ((k : Int) - (d : Int)) _ (by first | omega | (have := Hd0.out; omega)) (by omega) (by omega) (by first | exact HPW.out | exact HPW.out.drewN _)).mono ?_
                        rintro e w3 ⟨y3, rfl, hy3, q3, rfl⟩
                        obtain ⟨r3, hr3, hA3⟩ := apz_one Hn1.out Hn15.out HFA.out hy3 (by omega) (by omega)
                        have rm3 := fun w => run_float_arith (P := Tryd.prog) w .mul 26 .f64 f0 y3 r3 hr3
                        have HA3 := hide hA3
                        clear hr3 hA3 hy3
                        go_wp2
                        all_goals go_ret2
                        all_goals first | exact ⟨_, ret_fi (by first | omega | (have := HL.out; omega)), ⟨fun h => by have := Hn0.out; omega, fun _ => by rw [← HnP.out]; exact apz_at_pn HA3.out (by omega)⟩, 0, rfl⟩ | exact ⟨_, ret_fi (by first | omega | (have := HL.out; omega)), ⟨fun h => by have := Hn0.out; omega, fun _ => by rw [← HnP.out]; exact apz_at_pn HA3.out (by omega)⟩, _, rfl⟩
                      | false =>
                        go_wp2_with fail
                        refine (isInf_any _ _).mono ?_
                        rintro e w3 ⟨⟨tb, rfl⟩, rfl⟩
                        cases tb
                        · skip
                          go_wp2
                          all_goals go_ret2
                          all_goals first | exact ⟨_, ret_fi (by first | omega | (have := HL.out; omega)), ⟨fun h => by have := Hn0.out; omega, fun _ => by rw [← HnP.out]; exact apz_at_pn HA2.out (by omega)⟩, 0, rfl⟩ | exact ⟨_, ret_fi (by first | omega | (have := HL.out; omega)), ⟨fun h => by have := Hn0.out; omega, fun _ => by rw [← HnP.out]; exact apz_at_pn HA2.out (by omega)⟩, _, rfl⟩
                        · skip
                          go_wp2_with fail
                          refine (pow10_at _ ((k : Int) - (d : Int)) _ (by first | omega | (have := Hd0.out; omega)) (by omega) (by omega) (by first | exact HPW.out | exact HPW.out.drewN _)).mono ?_
                          rintro e w3 ⟨y3, rfl, hy3, q3, rfl⟩
                          obtain ⟨r3, hr3, hA3⟩ := apz_one Hn1.out Hn15.out HFA.out hy3 (by omega) (by omega)
                          have rm3 := fun w => run_float_arith (P := Tryd.prog) w .mul 26 .f64 f0 y3 r3 hr3
                          have HA3 := hide hA3
                          clear hr3 hA3 hy3
                          go_wp2
                          all_goals go_ret2
                          all_goals first | exact ⟨_, ret_fi (by first | omega | (have := HL.out; omega)), ⟨fun h => by have := Hn0.out; omega, fun _ => by rw [← HnP.out]; exact apz_at_pn HA3.out (by omega)⟩, 0, rfl⟩ | exact ⟨_, ret_fi (by first | omega | (have := HL.out; omega)), ⟨fun h => by have := Hn0.out; omega, fun _ => by rw [← HnP.out]; exact apz_at_pn HA3.out (by omega)⟩, _, rfl⟩
                  | false =>
                    go_wp2_with fail
                    refine (pow10_at _ (-(d : Int)) _ (by first | omega | (have := Hd0.out; omega)) (by omega) (by omega) (by first | exact HPW.out | exact HPW.out.drewN _)).mono ?_
                    rintro e w1 ⟨y1, rfl, hy1, q1, rfl⟩
                    obtain ⟨r1, hr1, hA1⟩ := apz_a Hn1.out Hn15.out HFA.out hy1 hd20
                    have rm1 := fun w => run_float_arith (P := Tryd.prog) w .mul 26 .f64 f0 y1 r1 hr1
                    have HA1 := hide hA1
                    clear hr1 hA1 hy1
                    go_wp2_with fail
                    refine (pow10_at _ ((k : Int)) _ (by first | omega | (have := Hd0.out; omega)) (by omega) (by omega) (by first | exact HPW.out | exact HPW.out.drewN _)).mono ?_
                    rintro e w2 ⟨y2, rfl, hy2, q2, rfl⟩
                    obtain ⟨r2, hr2, hA2⟩ := apz_b Hn1.out Hn15.out HA1.out hd20 hy2 x1 x2
                    have rm2 := fun w => run_float_arith (P := Tryd.prog) w .mul 26 .f64 r1 y2 r2 hr2
                    have HA2 := hide hA2
                    clear hr2 hA2 hy2
                    cases hte : (FloatKind.f64.format.order r2 0 == some .eq) with
                    | true =>
                      go_wp2_with fail
                      refine (pow10_at _ ((k : Int) - (d : Int)) _ (by first | omega | (have := Hd0.out; omega)) (by omega) (by omega) (by first | exact HPW.out | exact HPW.out.drewN _)).mono ?_
                      rintro e w3 ⟨y3, rfl, hy3, q3, rfl⟩
                      obtain ⟨r3, hr3, hA3⟩ := apz_one Hn1.out Hn15.out HFA.out hy3 (by omega) (by omega)
                      have rm3 := fun w => run_float_arith (P := Tryd.prog) w .mul 26 .f64 f0 y3 r3 hr3
                      have HA3 := hide hA3
                      clear hr3 hA3 hy3
                      go_wp2
                      all_goals go_ret2
                      all_goals first | exact ⟨_, ret_fi (by first | omega | (have := HL.out; omega)), ⟨fun h => by have := Hn0.out; omega, fun _ => by rw [← HnP.out]; exact apz_at_pn HA3.out (by omega)⟩, 0, rfl⟩ | exact ⟨_, ret_fi (by first | omega | (have := HL.out; omega)), ⟨fun h => by have := Hn0.out; omega, fun _ => by rw [← HnP.out]; exact apz_at_pn HA3.out (by omega)⟩, _, rfl⟩
                    | false =>
                      go_wp2_with fail
                      refine (isInf_any _ _).mono ?_
                      rintro e w3 ⟨⟨tb, rfl⟩, rfl⟩
                      cases tb
                      · skip
                        go_wp2
                        all_goals go_ret2
                        all_goals first | exact ⟨_, ret_fi (by first | omega | (have := HL.out; omega)), ⟨fun h => by have := Hn0.out; omega, fun _ => by rw [← HnP.out]; exact apz_at_pn HA2.out (by omega)⟩, 0, rfl⟩ | exact ⟨_, ret_fi (by first | omega | (have := HL.out; omega)), ⟨fun h => by have := Hn0.out; omega, fun _ => by rw [← HnP.out]; exact apz_at_pn HA2.out (by omega)⟩, _, rfl⟩
                      · skip
                        go_wp2_with fail
                        refine (pow10_at _ ((k : Int) - (d : Int)) _ (by first | omega | (have := Hd0.out; omega)) (by omega) (by omega) (by first | exact HPW.out | exact HPW.out.drewN _)).mono ?_
                        rintro e w3 ⟨y3, rfl, hy3, q3, rfl⟩
                        obtain ⟨r3, hr3, hA3⟩ := apz_one Hn1.out Hn15.out HFA.out hy3 (by omega) (by omega)
                        have rm3 := fun w => run_float_arith (P := Tryd.prog) w .mul 26 .f64 f0 y3 r3 hr3
                        have HA3 := hide hA3
                        clear hr3 hA3 hy3
                        go_wp2
                        all_goals go_ret2
                        all_goals first | exact ⟨_, ret_fi (by first | omega | (have := HL.out; omega)), ⟨fun h => by have := Hn0.out; omega, fun _ => by rw [← HnP.out]; exact apz_at_pn HA3.out (by omega)⟩, 0, rfl⟩ | exact ⟨_, ret_fi (by first | omega | (have := HL.out; omega)), ⟨fun h => by have := Hn0.out; omega, fun _ => by rw [← HnP.out]; exact apz_at_pn HA3.out (by omega)⟩, _, rfl⟩
              · obtain ⟨k, hxz⟩ : ∃ k : Nat, x = -(k : Int) := ⟨(-(x - (d : Int))).toNat, by first | omega | (have := Hd0.out; omega)⟩
                have hk0 : ((k : Int) == 0) = false := by rw [beq_eq_false_iff_ne]; first | omega | (have := Hd0.out; omega)
                have hk1 : (0 : Int) < (k : Int) := by first | omega | (have := Hd0.out; omega)
                have hk50 : (k : Int) ≤ 50 := by first | omega | (have := Hd0.out; omega)
                by_cases zf : (k : Int) ≤ 22
                · subst hxz
                  obtain ⟨y, hy, hYA⟩ := HT.out (k) (by omega)
                  obtain ⟨r, hr, hAB⟩ := apz_div (z := (-(k : Int)) - (d : Int)) Hn1.out Hn15.out HFA.out hYA (by omega) (by first | omega | (have := Hd0.out; omega))
                  have rm := fun w => run_float_arith (P := Tryd.prog) w .quo 26 .f64 f0 y r hr
                  have HAB := hide hAB
                  clear hr hAB hYA
                  go_wp2
                  all_goals go_ret2
                  all_goals first | exact ⟨_, ret_fi (by first | omega | (have := HL.out; omega)), ⟨fun h => by have := Hn0.out; omega, fun _ => by rw [← HnP.out]; exact apz_at_pn HAB.out (by omega)⟩, 0, rfl⟩ | exact ⟨_, ret_fi (by first | omega | (have := HL.out; omega)), ⟨fun h => by have := Hn0.out; omega, fun _ => by rw [← HnP.out]; exact apz_at_pn HAB.out (by omega)⟩, _, rfl⟩
                · subst hxz
                  go_wp2_with fail
                  refine (pow10_at _ (-(d : Int)) _ (by first | omega | (have := Hd0.out; omega)) (by omega) (by omega) (by first | exact HPW.out | exact HPW.out.drewN _)).mono ?_
                  rintro e w1 ⟨y1, rfl, hy1, q1, rfl⟩
                  obtain ⟨r1, hr1, hA1⟩ := apz_a Hn1.out Hn15.out HFA.out hy1 hd20
                  have rm1 := fun w => run_float_arith (P := Tryd.prog) w .mul 26 .f64 f0 y1 r1 hr1
                  have HA1 := hide hA1
                  clear hr1 hA1 hy1
                  go_wp2_with fail
                  refine (pow10_at _ ((-(k : Int))) _ (by first | omega | (have := Hd0.out; omega)) (by omega) (by omega) (by first | exact HPW.out | exact HPW.out.drewN _)).mono ?_
                  rintro e w2 ⟨y2, rfl, hy2, q2, rfl⟩
                  obtain ⟨r2, hr2, hA2⟩ := apz_b Hn1.out Hn15.out HA1.out hd20 hy2 x1 x2
                  have rm2 := fun w => run_float_arith (P := Tryd.prog) w .mul 26 .f64 r1 y2 r2 hr2
                  have HA2 := hide hA2
                  clear hr2 hA2 hy2
                  cases hte : (FloatKind.f64.format.order r2 0 == some .eq) with
                  | true =>
                    go_wp2_with fail
                    refine (pow10_at _ ((-(k : Int)) - (d : Int)) _ (by first | omega | (have := Hd0.out; omega)) (by omega) (by omega) (by first | exact HPW.out | exact HPW.out.drewN _)).mono ?_
                    rintro e w3 ⟨y3, rfl, hy3, q3, rfl⟩
                    obtain ⟨r3, hr3, hA3⟩ := apz_one Hn1.out Hn15.out HFA.out hy3 (by omega) (by omega)
                    have rm3 := fun w => run_float_arith (P := Tryd.prog) w .mul 26 .f64 f0 y3 r3 hr3
                    have HA3 := hide hA3
                    clear hr3 hA3 hy3
                    go_wp2
                    all_goals go_ret2
                    all_goals first | exact ⟨_, ret_fi (by first | omega | (have := HL.out; omega)), ⟨fun h => by have := Hn0.out; omega, fun _ => by rw [← HnP.out]; exact apz_at_pn HA3.out (by omega)⟩, 0, rfl⟩ | exact ⟨_, ret_fi (by first | omega | (have := HL.out; omega)), ⟨fun h => by have := Hn0.out; omega, fun _ => by rw [← HnP.out]; exact apz_at_pn HA3.out (by omega)⟩, _, rfl⟩
                  | false =>
                    go_wp2_with fail
                    refine (isInf_any _ _).mono ?_
                    rintro e w3 ⟨⟨tb, rfl⟩, rfl⟩
                    cases tb
                    · skip
                      go_wp2
                      all_goals go_ret2
                      all_goals first | exact ⟨_, ret_fi (by first | omega | (have := HL.out; omega)), ⟨fun h => by have := Hn0.out; omega, fun _ => by rw [← HnP.out]; exact apz_at_pn HA2.out (by omega)⟩, 0, rfl⟩ | exact ⟨_, ret_fi (by first | omega | (have := HL.out; omega)), ⟨fun h => by have := Hn0.out; omega, fun _ => by rw [← HnP.out]; exact apz_at_pn HA2.out (by omega)⟩, _, rfl⟩
                    · skip
                      go_wp2_with fail
                      refine (pow10_at _ ((-(k : Int)) - (d : Int)) _ (by first | omega | (have := Hd0.out; omega)) (by omega) (by omega) (by first | exact HPW.out | exact HPW.out.drewN _)).mono ?_
                      rintro e w3 ⟨y3, rfl, hy3, q3, rfl⟩
                      obtain ⟨r3, hr3, hA3⟩ := apz_one Hn1.out Hn15.out HFA.out hy3 (by omega) (by omega)
                      have rm3 := fun w => run_float_arith (P := Tryd.prog) w .mul 26 .f64 f0 y3 r3 hr3
                      have HA3 := hide hA3
                      clear hr3 hA3 hy3
                      go_wp2
                      all_goals go_ret2
                      all_goals first | exact ⟨_, ret_fi (by first | omega | (have := HL.out; omega)), ⟨fun h => by have := Hn0.out; omega, fun _ => by rw [← HnP.out]; exact apz_at_pn HA3.out (by omega)⟩, 0, rfl⟩ | exact ⟨_, ret_fi (by first | omega | (have := HL.out; omega)), ⟨fun h => by have := Hn0.out; omega, fun _ => by rw [← HnP.out]; exact apz_at_pn HA3.out (by omega)⟩, _, rfl⟩
        | false =>
          rcases HE.out with ⟨hx, hL, hno⟩ | hE
          · have Hno := hide hno
            have HL := hide hL
            clear hno hL
            subst hx
            by_cases hT : i < b.length
            · obtain ⟨c2, hc⟩ : ∃ c2, b[i]? = some c2 := ⟨_, List.getElem?_eq_getElem hT⟩
              obtain ⟨hcd, hc46⟩ := hend c2 hc
              obtain ⟨hc101, hc69⟩ := Hno.out c2 hc
              obtain ⟨b2, o2, e2, cell⟩ := Hbs.out.at_ hc
              simp only [Option.some.injEq, Addr.mk.injEq, and_true] at e2
              obtain ⟨rfl, rfl⟩ := e2
              have hb46 : ((c2.toNat : Int) == 46) = false := by rw [beq_eq_false_iff_ne]; intro e; exact hc46 (UInt8.toNat_inj.1 (by simp; omega))
              have hb101 : ((c2.toNat : Int) == 101) = false := by rw [beq_eq_false_iff_ne]; intro e; exact hc101 (UInt8.toNat_inj.1 (by simp; omega))
              have hb69 : ((c2.toNat : Int) == 69) = false := by rw [beq_eq_false_iff_ne]; intro e; exact hc69 (UInt8.toNat_inj.1 (by simp; omega))
              have hnd := notdig hcd
              clear hc hcd hc46 hend hc101 hc69
              by_cases h48 : (48 : Int) ≤ (c2.toNat : Int)
              · have h57 : ¬ (c2.toNat : Int) ≤ 57 := by omega
                clear hnd
                have HAB := hide (apz_nil (z := (0 : Int) - (d : Int)) HFA.out (by first | omega | (have := Hd0.out; omega)))
                go_wp2
                all_goals go_ret2
                all_goals first | exact ⟨_, ret_fi (by first | omega | (have := HL.out; omega)), ⟨fun h => by have := Hn0.out; omega, fun _ => by rw [← HnP.out]; exact apz_at_pn HAB.out (by omega)⟩, 0, rfl⟩ | exact ⟨_, ret_fi (by first | omega | (have := HL.out; omega)), ⟨fun h => by have := Hn0.out; omega, fun _ => by rw [← HnP.out]; exact apz_at_pn HAB.out (by omega)⟩, _, rfl⟩
              · clear hnd
                have HAB := hide (apz_nil (z := (0 : Int) - (d : Int)) HFA.out (by first | omega | (have := Hd0.out; omega)))
                go_wp2
                all_goals go_ret2
                all_goals first | exact ⟨_, ret_fi (by first | omega | (have := HL.out; omega)), ⟨fun h => by have := Hn0.out; omega, fun _ => by rw [← HnP.out]; exact apz_at_pn HAB.out (by omega)⟩, 0, rfl⟩ | exact ⟨_, ret_fi (by first | omega | (have := HL.out; omega)), ⟨fun h => by have := Hn0.out; omega, fun _ => by rw [← HnP.out]; exact apz_at_pn HAB.out (by omega)⟩, _, rfl⟩
            · clear hend
              have HAB := hide (apz_nil (z := (0 : Int) - (d : Int)) HFA.out (by first | omega | (have := Hd0.out; omega)))
              go_wp2
              all_goals go_ret2
              all_goals first | exact ⟨_, ret_fi (by first | omega | (have := HL.out; omega)), ⟨fun h => by have := Hn0.out; omega, fun _ => by rw [← HnP.out]; exact apz_at_pn HAB.out (by omega)⟩, 0, rfl⟩ | exact ⟨_, ret_fi (by first | omega | (have := HL.out; omega)), ⟨fun h => by have := Hn0.out; omega, fun _ => by rw [← HnP.out]; exact apz_at_pn HAB.out (by omega)⟩, _, rfl⟩
          · skip
            obtain ⟨r, hr, hrd, hL⟩ := hE
            have HL0 := hide hL
            have Hrd := hide hrd
            have hb101 : b[i]? = some 101 := by have := congrArg (·[0]?) hr; simpa using this
            have hdr : b.drop (i + 1) = decI x ++ r := by rw [← List.drop_drop, hr]; rfl
            have hT : i < b.length := (List.getElem?_eq_some_iff.1 hb101).1
            obtain ⟨b2, o2, e2, cell⟩ := Hbs.out.at_ hb101
            simp only [Option.some.injEq, Addr.mk.injEq, and_true] at e2
            obtain ⟨rfl, rfl⟩ := e2
            have cell2 : w.cell? ⟨b0, o0 + i, none⟩ = some (.int .u8 101) := cell
            have hbl : (decI x ++ r).length = b.length - (i + 1) := by rw [← hdr]; simp
            have Hbl := hide hbl
            have HB2 : Hid (BS w (some ⟨b0, o0 + (i + 1), none⟩) (decI x ++ r)) := hide (hdr ▸ Hbs.out.cut rfl (i + 1))
            have hib2 : i + 1 < b.length := by have h1 := decI_pos_len x; have h2 := hbl; rw [List.length_append] at h2; omega
            have hcne : ¬ c = i + 1 := by omega
            have hmb : i + 1 + (decI x).length ≤ b.length := by have h2 := hbl; rw [List.length_append] at h2; omega
            have Hmb := hide hmb
            have Hm := hide (decI_pos_len x)
            clear hr hrd hL hb101 hdr cell hend hbl hmb
            go_wp2_with fail
            refine (parseInt_dec _ x r _ _ _ (Hbl.out.trans (by omega)) HB2.out (by omega) Hrd.out (by omega) (by omega)).mono ?_
            rintro e w1 ⟨rfl, rfl⟩
            obtain ⟨m, hm⟩ : ∃ m, (decI x).length = m := ⟨_, rfl⟩
            have hm0 : 0 < m := by have := Hm.out; omega
            have HL := hide (show L = i + 1 + m by have := HL0.out; omega)
            have hmb : i + 1 + m ≤ b.length := by have := Hmb.out; omega
            rw [hm]
            clear hm Hm HB2 Hrd Hbl Hmb HL0
            by_cases zz : x - (d : Int) = 0
            · obtain rfl : x = 0 := by have := Hd0.out; first | omega | (have := Hd0.out; omega)
              have HAB := hide (apz_nil (z := (0 : Int) - (d : Int)) HFA.out (by first | omega | (have := Hd0.out; omega)))
              go_wp2
              all_goals go_ret2
              all_goals first | exact ⟨_, ret_fi (by first | omega | (have := HL.out; omega)), ⟨fun h => by have := Hn0.out; omega, fun _ => by rw [← HnP.out]; exact apz_at_pn HAB.out (by omega)⟩, 0, rfl⟩ | exact ⟨_, ret_fi (by first | omega | (have := HL.out; omega)), ⟨fun h => by have := Hn0.out; omega, fun _ => by rw [← HnP.out]; exact apz_at_pn HAB.out (by omega)⟩, _, rfl⟩
            · by_cases zp : 0 < x - (d : Int)
              · by_cases zf : x - (d : Int) ≤ 22
                · obtain ⟨k, hxz⟩ : ∃ k : Nat, x = (k : Int) := ⟨(x - (d : Int)).toNat, by first | omega | (have := Hd0.out; omega)⟩
                  have hk0 : ((k : Int) == 0) = false := by rw [beq_eq_false_iff_ne]; first | omega | (have := Hd0.out; omega)
                  have hk1 : (0 : Int) < (k : Int) := by first | omega | (have := Hd0.out; omega)
                  have hk2 : (k : Int) ≤ 22 := by first | omega | (have := Hd0.out; omega)
                  subst hxz
                  obtain ⟨y, hy, hYA⟩ := HT.out (k) (by omega)
                  obtain ⟨r, hr, hAB⟩ := apz_mul (z := (k : Int) - (d : Int)) Hn1.out Hn15.out HFA.out hYA (by omega) (by first | omega | (have := Hd0.out; omega))
                  have rm := fun w => run_float_arith (P := Tryd.prog) w .mul 26 .f64 f0 y r hr
                  have HAB := hide hAB
                  clear hr hAB hYA
                  cases ht1 : (FloatKind.f64.format.order 14054727237768577024 f0 == some .lt || FloatKind.f64.format.order 14054727237768577024 f0 == some .eq) with
                  | true =>
                    cases ht2 : (FloatKind.f64.format.order f0 4831355200913801216 == some .lt || FloatKind.f64.format.order f0 4831355200913801216 == some .eq) with
                    | true =>
                      go_wp2
                      all_goals go_ret2
                      all_goals first | exact ⟨_, ret_fi (by first | omega | (have := HL.out; omega)), ⟨fun h => by have := Hn0.out; omega, fun _ => by rw [← HnP.out]; exact apz_at_pn HAB.out (by omega)⟩, 0, rfl⟩ | exact ⟨_, ret_fi (by first | omega | (have := HL.out; omega)), ⟨fun h => by have := Hn0.out; omega, fun _ => by rw [← HnP.out]; exact apz_at_pn HAB.out (by omega)⟩, _, rfl⟩
                    | false =>
                      go_wp2_with fail
                      refine (pow10_at _ (-(d : Int)) _ (by first | omega | (have := Hd0.out; omega)) (by omega) (by omega) (by first | exact HPW.out | exact HPW.out.drewN _)).mono ?_
                      rintro e w1 ⟨y1, rfl, hy1, q1, rfl⟩
                      obtain ⟨r1, hr1, hA1⟩ := apz_a Hn1.out Hn15.out HFA.out hy1 hd20
                      have rm1 := fun w => run_float_arith (P := Tryd.prog) w .mul 26 .f64 f0 y1 r1 hr1
                      have HA1 := hide hA1
                      clear hr1 hA1 hy1
                      go_wp2_with fail
                      refine (pow10_at _ ((k : Int)) _ (by first | omega | (have := Hd0.out; omega)) (by omega) (by omega) (by first | exact HPW.out | exact HPW.out.drewN _)).mono ?_
                      rintro e w2 ⟨y2, rfl, hy2, q2, rfl⟩
                      obtain ⟨r2, hr2, hA2⟩ := apz_b Hn1.out Hn15.out HA1.out hd20 hy2 x1 x2
                      have rm2 := fun w => run_float_arith (P := Tryd.prog) w .mul 26 .f64 r1 y2 r2 hr2
                      have HA2 := hide hA2
                      clear hr2 hA2 hy2
                      cases hte : (FloatKind.f64.format.order r2 0 == some .eq) with
                      | true =>
                        go_wp2_with fail
                        refine (pow10_at _ ((k : Int) - (d : Int)) _ (by first | omega | (have := Hd0.out; omega)) (by omega) (by omega) (by first | exact HPW.out | exact HPW.out.drewN _)).mono ?_
                        rintro e w3 ⟨y3, rfl, hy3, q3, rfl⟩
                        obtain ⟨r3, hr3, hA3⟩ := apz_one Hn1.out Hn15.out HFA.out hy3 (by omega) (by omega)
                        have rm3 := fun w => run_float_arith (P := Tryd.prog) w .mul 26 .f64 f0 y3 r3 hr3
                        have HA3 := hide hA3
                        clear hr3 hA3 hy3
                        go_wp2
                        all_goals go_ret2
                        all_goals first | exact ⟨_, ret_fi (by first | omega | (have := HL.out; omega)), ⟨fun h => by have := Hn0.out; omega, fun _ => by rw [← HnP.out]; exact apz_at_pn HA3.out (by omega)⟩, 0, rfl⟩ | exact ⟨_, ret_fi (by first | omega | (have := HL.out; omega)), ⟨fun h => by have := Hn0.out; omega, fun _ => by rw [← HnP.out]; exact apz_at_pn HA3.out (by omega)⟩, _, rfl⟩
                      | false =>
                        go_wp2_with fail
                        refine (isInf_any _ _).mono ?_
                        rintro e w3 ⟨⟨tb, rfl⟩, rfl⟩
                        cases tb
                        · skip
                          go_wp2
                          all_goals go_ret2
                          all_goals first | exact ⟨_, ret_fi (by first | omega | (have := HL.out; omega)), ⟨fun h => by have := Hn0.out; omega, fun _ => by rw [← HnP.out]; exact apz_at_pn HA2.out (by omega)⟩, 0, rfl⟩ | exact ⟨_, ret_fi (by first | omega | (have := HL.out; omega)), ⟨fun h => by have := Hn0.out; omega, fun _ => by rw [← HnP.out]; exact apz_at_pn HA2.out (by omega)⟩, _, rfl⟩
                        · skip
                          go_wp2_with fail
                          refine (pow10_at _ ((k : Int) - (d : Int)) _ (by first | omega | (have := Hd0.out; omega)) (by omega) (by omega) (by first | exact HPW.out | exact HPW.out.drewN _)).mono ?_
                          rintro e w3 ⟨y3, rfl, hy3, q3, rfl⟩
                          obtain ⟨r3, hr3, hA3⟩ := apz_one Hn1.out Hn15.out HFA.out hy3 (by omega) (by omega)
                          have rm3 := fun w => run_float_arith (P := Tryd.prog) w .mul 26 .f64 f0 y3 r3 hr3
                          have HA3 := hide hA3
                          clear hr3 hA3 hy3
                          go_wp2
                          all_goals go_ret2
                          all_goals first | exact ⟨_, ret_fi (by first | omega | (have := HL.out; omega)), ⟨fun h => by have := Hn0.out; omega, fun _ => by rw [← HnP.out]; exact apz_at_pn HA3.out (by omega)⟩, 0, rfl⟩ | exact ⟨_, ret_fi (by first | omega | (have := HL.out; omega)), ⟨fun h => by have := Hn0.out; omega, fun _ => by rw [← HnP.out]; exact apz_at_pn HA3.out (by omega)⟩, _, rfl⟩
                  | false =>
                    go_wp2_with fail
                    refine (pow10_at _ (-(d : Int)) _ (by first | omega | (have := Hd0.out; omega)) (by omega) (by omega) (by first | exact HPW.out | exact HPW.out.drewN _)).mono ?_
                    rintro e w1 ⟨y1, rfl, hy1, q1, rfl⟩
                    obtain ⟨r1, hr1, hA1⟩ := apz_a Hn1.out Hn15.out HFA.out hy1 hd20
                    have rm1 := fun w => run_float_arith (P := Tryd.prog) w .mul 26 .f64 f0 y1 r1 hr1
                    have HA1 := hide hA1
                    clear hr1 hA1 hy1
                    go_wp2_with fail
                    refine (pow10_at _ ((k : Int)) _ (by first | omega | (have := Hd0.out; omega)) (by omega) (by omega) (by first | exact HPW.out | exact HPW.out.drewN _)).mono ?_
                    rintro e w2 ⟨y2, rfl, hy2, q2, rfl⟩
                    obtain ⟨r2, hr2, hA2⟩ := apz_b Hn1.out Hn15.out HA1.out hd20 hy2 x1 x2
                    have rm2 := fun w => run_float_arith (P := Tryd.prog) w .mul 26 .f64 r1 y2 r2 hr2
                    have HA2 := hide hA2
                    clear hr2 hA2 hy2
                    cases hte : (FloatKind.f64.format.order r2 0 == some .eq) with
                    | true =>
                      go_wp2_with fail
                      refine (pow10_at _ ((k : Int) - (d : Int)) _ (by first | omega | (have := Hd0.out; omega)) (by omega) (by omega) (by first | exact HPW.out | exact HPW.out.drewN _)).mono ?_
                      rintro e w3 ⟨y3, rfl, hy3, q3, rfl⟩
                      obtain ⟨r3, hr3, hA3⟩ := apz_one Hn1.out Hn15.out HFA.out hy3 (by omega) (by omega)
                      have rm3 := fun w => run_float_arith (P := Tryd.prog) w .mul 26 .f64 f0 y3 r3 hr3
                      have HA3 := hide hA3
                      clear hr3 hA3 hy3
                      go_wp2
                      all_goals go_ret2
                      all_goals first | exact ⟨_, ret_fi (by first | omega | (have := HL.out; omega)), ⟨fun h => by have := Hn0.out; omega, fun _ => by rw [← HnP.out]; exact apz_at_pn HA3.out (by omega)⟩, 0, rfl⟩ | exact ⟨_, ret_fi (by first | omega | (have := HL.out; omega)), ⟨fun h => by have := Hn0.out; omega, fun _ => by rw [← HnP.out]; exact apz_at_pn HA3.out (by omega)⟩, _, rfl⟩
                    | false =>
                      go_wp2_with fail
                      refine (isInf_any _ _).mono ?_
                      rintro e w3 ⟨⟨tb, rfl⟩, rfl⟩
                      cases tb
                      · skip
                        go_wp2
                        all_goals go_ret2
                        all_goals first | exact ⟨_, ret_fi (by first | omega | (have := HL.out; omega)), ⟨fun h => by have := Hn0.out; omega, fun _ => by rw [← HnP.out]; exact apz_at_pn HA2.out (by omega)⟩, 0, rfl⟩ | exact ⟨_, ret_fi (by first | omega | (have := HL.out; omega)), ⟨fun h => by have := Hn0.out; omega, fun _ => by rw [← HnP.out]; exact apz_at_pn HA2.out (by omega)⟩, _, rfl⟩
                      · skip
                        go_wp2_with fail
                        refine (pow10_at _ ((k : Int) - (d : Int)) _ (by first | omega | (have := Hd0.out; omega)) (by omega) (by omega) (by first | exact HPW.out | exact HPW.out.drewN _)).mono ?_
                        rintro e w3 ⟨y3, rfl, hy3, q3, rfl⟩
                        obtain ⟨r3, hr3, hA3⟩ := apz_one Hn1.out Hn15.out HFA.out hy3 (by omega) (by omega)
                        have rm3 := fun w => run_float_arith (P := Tryd.prog) w .mul 26 .f64 f0 y3 r3 hr3
                        have HA3 := hide hA3
                        clear hr3 hA3 hy3
                        go_wp2
                        all_goals go_ret2
                        all_goals first | exact ⟨_, ret_fi (by first | omega | (have := HL.out; omega)), ⟨fun h => by have := Hn0.out; omega, fun _ => by rw [← HnP.out]; exact apz_at_pn HA3.out (by omega)⟩, 0, rfl⟩ | exact ⟨_, ret_fi (by first | omega | (have := HL.out; omega)), ⟨fun h => by have := Hn0.out; omega, fun _ => by rw [← HnP.out]; exact apz_at_pn HA3.out (by omega)⟩, _, rfl⟩
                · obtain ⟨k, hxz⟩ : ∃ k : Nat, x = (k : Int) := ⟨(x - (d : Int)).toNat, by first | omega | (have := Hd0.out; omega)⟩
                  obtain ⟨j, hj⟩ : ∃ j : Nat, (k : Int) - 22 = (j : Int) := ⟨((k : Int) - 22).toNat, by first | omega | (have := Hd0.out; omega)⟩
                  have hk0 : ((k : Int) == 0) = false := by rw [beq_eq_false_iff_ne]; first | omega | (have := Hd0.out; omega)
                  have hk1 : (22 : Int) < (k : Int) := by first | omega | (have := Hd0.out; omega)
                  have hk2 : (k : Int) ≤ 30 := by first | omega | (have := Hd0.out; omega)
                  have hj8 : j ≤ 8 := by first | omega | (have := Hd0.out; omega)
                  subst hxz
                  obtain ⟨y, hy, hYA⟩ := HT.out (j) (by omega)
                  obtain ⟨u, hu, hUA⟩ := HT.out (22) (by omega)
                  obtain ⟨g, r, hg, hr, hAB⟩ := apz_mul2 (z := (k : Int) - (d : Int)) Hn1.out Hn15.out HFA.out hYA hUA (by omega) (by first | omega | (have := Hd0.out; omega))
                  have rm := fun w => run_float_arith (P := Tryd.prog) w .mul 26 .f64 f0 y g hg
                  have rn := fun w => run_float_arith (P := Tryd.prog) w .mul 26 .f64 g u r hr
                  have HAB := hide hAB
                  clear hg hr hAB hYA hUA
                  cases ht1 : (FloatKind.f64.format.order 14054727237768577024 g == some .lt || FloatKind.f64.format.order 14054727237768577024 g == some .eq) with
                  | true =>
                    cases ht2 : (FloatKind.f64.format.order g 4831355200913801216 == some .lt || FloatKind.f64.format.order g 4831355200913801216 == some .eq) with
                    | true =>
                      go_wp2
                      all_goals go_ret2
                      all_goals first | exact ⟨_, ret_fi (by first | omega | (have := HL.out; omega)), ⟨fun h => by have := Hn0.out; omega, fun _ => by rw [← HnP.out]; exact apz_at_pn HAB.out (by omega)⟩, 0, rfl⟩ | exact ⟨_, ret_fi (by first | omega | (have := HL.out; omega)), ⟨fun h => by have := Hn0.out; omega, fun _ => by rw [← HnP.out]; exact apz_at_pn HAB.out (by omega)⟩, _, rfl⟩
                    | false =>
                      go_wp2_with fail
                      refine (pow10_at _ (-(d : Int)) _ (by first | omega | (have := Hd0.out; omega)) (by omega) (by omega) (by first | exact HPW.out | exact HPW.out.drewN _)).mono ?_
                      rintro e w1 ⟨y1, rfl, hy1, q1, rfl⟩
                      obtain ⟨r1, hr1, hA1⟩ := apz_a Hn1.out Hn15.out HFA.out hy1 hd20
                      have rm1 := fun w => run_float_arith (P := Tryd.prog) w .mul 26 .f64 f0 y1 r1 hr1
                      have HA1 := hide hA1
                      clear hr1 hA1 hy1
                      go_wp2_with fail
                      refine (pow10_at _ ((k : Int)) _ (by first | omega | (have := Hd0.out; omega)) (by omega) (by omega) (by first | exact HPW.out | exact HPW.out.drewN _)).mono ?_
                      rintro e w2 ⟨y2, rfl, hy2, q2, rfl⟩
                      obtain ⟨r2, hr2, hA2⟩ := apz_b Hn1.out Hn15.out HA1.out hd20 hy2 x1 x2
                      have rm2 := fun w => run_float_arith (P := Tryd.prog) w .mul 26 .f64 r1 y2 r2 hr2
                      have HA2 := hide hA2
                      clear hr2 hA2 hy2
                      cases hte : (FloatKind.f64.format.order r2 0 == some .eq) with
                      | true =>
                        go_wp2_with fail
                        refine (pow10_at _ ((k : Int) - (d : Int)) _ (by first | omega | (have := Hd0.out; omega)) (by omega) (by omega) (by first | exact HPW.out | exact HPW.out.drewN _)).mono ?_
                        rintro e w3 ⟨y3, rfl, hy3, q3, rfl⟩
                        obtain ⟨r3, hr3, hA3⟩ := apz_one Hn1.out Hn15.out HFA.out hy3 (by omega) (by omega)
                        have rm3 := fun w => run_float_arith (P := Tryd.prog) w .mul 26 .f64 f0 y3 r3 hr3
                        have HA3 := hide hA3
                        clear hr3 hA3 hy3
                        go_wp2
                        all_goals go_ret2
                        all_goals first | exact ⟨_, ret_fi (by first | omega | (have := HL.out; omega)), ⟨fun h => by have := Hn0.out; omega, fun _ => by rw [← HnP.out]; exact apz_at_pn HA3.out (by omega)⟩, 0, rfl⟩ | exact ⟨_, ret_fi (by first | omega | (have := HL.out; omega)), ⟨fun h => by have := Hn0.out; omega, fun _ => by rw [← HnP.out]; exact apz_at_pn HA3.out (by omega)⟩, _, rfl⟩
                      | false =>
                        go_wp2_with fail
                        refine (isInf_any _ _).mono ?_
                        rintro e w3 ⟨⟨tb, rfl⟩, rfl⟩
                        cases tb
                        · skip
                          go_wp2
                          all_goals go_ret2
                          all_goals first | exact ⟨_, ret_fi (by first | omega | (have := HL.out; omega)), ⟨fun h => by have := Hn0.out; omega, fun _ => by rw [← HnP.out]; exact apz_at_pn HA2.out (by omega)⟩, 0, rfl⟩ | exact ⟨_, ret_fi (by first | omega | (have := HL.out; omega)), ⟨fun h => by have := Hn0.out; omega, fun _ => by rw [← HnP.out]; exact apz_at_pn HA2.out (by omega)⟩, _, rfl⟩
                        · skip
                          go_wp2_with fail
                          refine (pow10_at _ ((k : Int) - (d : Int)) _ (by first | omega | (have := Hd0.out; omega)) (by omega) (by omega) (by first | exact HPW.out | exact HPW.out.drewN _)).mono ?_
                          rintro e w3 ⟨y3, rfl, hy3, q3, rfl⟩
                          obtain ⟨r3, hr3, hA3⟩ := apz_one Hn1.out Hn15.out HFA.out hy3 (by omega) (by omega)
                          have rm3 := fun w => run_float_arith (P := Tryd.prog) w .mul 26 .f64 f0 y3 r3 hr3
                          have HA3 := hide hA3
                          clear hr3 hA3 hy3
                          go_wp2
                          all_goals go_ret2
                          all_goals first | exact ⟨_, ret_fi (by first | omega | (have := HL.out; omega)), ⟨fun h => by have := Hn0.out; omega, fun _ => by rw [← HnP.out]; exact apz_at_pn HA3.out (by omega)⟩, 0, rfl⟩ | exact ⟨_, ret_fi (by first | omega | (have := HL.out; omega)), ⟨fun h => by have := Hn0.out; omega, fun _ => by rw [← HnP.out]; exact apz_at_pn HA3.out (by omega)⟩, _, rfl⟩
                  | false =>
                    go_wp2_with fail
                    refine (pow10_at _ (-(d : Int)) _ (by first | omega | (have := Hd0.out; omega)) (by omega) (by omega) (by first | exact HPW.out | exact HPW.out.drewN _)).mono ?_
                    rintro e w1 ⟨y1, rfl, hy1, q1, rfl⟩
                    obtain ⟨r1, hr1, hA1⟩ := apz_a Hn1.out Hn15.out HFA.out hy1 hd20
                    have rm1 := fun w => run_float_arith (P := Tryd.prog) w .mul 26 .f64 f0 y1 r1 hr1
                    have HA1 := hide hA1
                    clear hr1 hA1 hy1
                    go_wp2_with fail
                    refine (pow10_at _ ((k : Int)) _ (by first | omega | (have := Hd0.out; omega)) (by omega) (by omega) (by first | exact HPW.out | exact HPW.out.drewN _)).mono ?_
                    rintro e w2 ⟨y2, rfl, hy2, q2, rfl⟩
                    obtain ⟨r2, hr2, hA2⟩ := apz_b Hn1.out Hn15.out HA1.out hd20 hy2 x1 x2
                    have rm2 := fun w => run_float_arith (P := Tryd.prog) w .mul 26 .f64 r1 y2 r2 hr2
                    have HA2 := hide hA2
                    clear hr2 hA2 hy2
                    cases hte : (FloatKind.f64.format.order r2 0 == some .eq) with
                    | true =>
                      go_wp2_with fail
                      refine (pow10_at _ ((k : Int) - (d : Int)) _ (by first | omega | (have := Hd0.out; omega)) (by omega) (by omega) (by first | exact HPW.out | exact HPW.out.drewN _)).mono ?_
                      rintro e w3 ⟨y3, rfl, hy3, q3, rfl⟩
                      obtain ⟨r3, hr3, hA3⟩ := apz_one Hn1.out Hn15.out HFA.out hy3 (by omega) (by omega)
                      have rm3 := fun w => run_float_arith (P := Tryd.prog) w .mul 26 .f64 f0 y3 r3 hr3
                      have HA3 := hide hA3
                      clear hr3 hA3 hy3
                      go_wp2
                      all_goals go_ret2
                      all_goals first | exact ⟨_, ret_fi (by first | omega | (have := HL.out; omega)), ⟨fun h => by have := Hn0.out; omega, fun _ => by rw [← HnP.out]; exact apz_at_pn HA3.out (by omega)⟩, 0, rfl⟩ | exact ⟨_, ret_fi (by first | omega | (have := HL.out; omega)), ⟨fun h => by have := Hn0.out; omega, fun _ => by rw [← HnP.out]; exact apz_at_pn HA3.out (by omega)⟩, _, rfl⟩
                    | false =>
                      go_wp2_with fail
                      refine (isInf_any _ _).mono ?_
                      rintro e w3 ⟨⟨tb, rfl⟩, rfl⟩
                      cases tb
                      · skip
                        go_wp2
                        all_goals go_ret2
                        all_goals first | exact ⟨_, ret_fi (by first | omega | (have := HL.out; omega)), ⟨fun h => by have := Hn0.out; omega, fun _ => by rw [← HnP.out]; exact apz_at_pn HA2.out (by omega)⟩, 0, rfl⟩ | exact ⟨_, ret_fi (by first | omega | (have := HL.out; omega)), ⟨fun h => by have := Hn0.out; omega, fun _ => by rw [← HnP.out]; exact apz_at_pn HA2.out (by omega)⟩, _, rfl⟩
                      · skip
                        go_wp2_with fail
                        refine (pow10_at _ ((k : Int) - (d : Int)) _ (by first | omega | (have := Hd0.out; omega)) (by omega) (by omega) (by first | exact HPW.out | exact HPW.out.drewN _)).mono ?_
                        rintro e w3 ⟨y3, rfl, hy3, q3, rfl⟩
                        obtain ⟨r3, hr3, hA3⟩ := apz_one Hn1.out Hn15.out HFA.out hy3 (by omega) (by omega)
                        have rm3 := fun w => run_float_arith (P := Tryd.prog) w .mul 26 .f64 f0 y3 r3 hr3
                        have HA3 := hide hA3
                        clear hr3 hA3 hy3
                        go_wp2
                        all_goals go_ret2
                        all_goals first | exact ⟨_, ret_fi (by first | omega | (have := HL.out; omega)), ⟨fun h => by have := Hn0.out; omega, fun _ => by rw [← HnP.out]; exact apz_at_pn HA3.out (by omega)⟩, 0, rfl⟩ | exact ⟨_, ret_fi (by first | omega | (have := HL.out; omega)), ⟨fun h => by have := Hn0.out; omega, fun _ => by rw [← HnP.out]; exact apz_at_pn HA3.out (by omega)⟩, _, rfl⟩
              · obtain ⟨k, hxz⟩ : ∃ k : Nat, x = -(k : Int) := ⟨(-(x - (d : Int))).toNat, by first | omega | (have := Hd0.out; omega)⟩
                have hk0 : ((k : Int) == 0) = false := by rw [beq_eq_false_iff_ne]; first | omega | (have := Hd0.out; omega)
                have hk1 : (0 : Int) < (k : Int) := by first | omega | (have := Hd0.out; omega)
                have hk50 : (k : Int) ≤ 50 := by first | omega | (have := Hd0.out; omega)
                by_cases zf : (k : Int) ≤ 22
                · subst hxz
                  obtain ⟨y, hy, hYA⟩ := HT.out (k) (by omega)
                  obtain ⟨r, hr, hAB⟩ := apz_div (z := (-(k : Int)) - (d : Int)) Hn1.out Hn15.out HFA.out hYA (by omega) (by first | omega | (have := Hd0.out; omega))
                  have rm := fun w => run_float_arith (P := Tryd.prog) w .quo 26 .f64 f0 y r hr
                  have HAB := hide hAB
                  clear hr hAB hYA
                  go_wp2
                  all_goals go_ret2
                  all_goals first | exact ⟨_, ret_fi (by first | omega | (have := HL.out; omega)), ⟨fun h => by have := Hn0.out; omega, fun _ => by rw [← HnP.out]; exact apz_at_pn HAB.out (by omega)⟩, 0, rfl⟩ | exact ⟨_, ret_fi (by first | omega | (have := HL.out; omega)), ⟨fun h => by have := Hn0.out; omega, fun _ => by rw [← HnP.out]; exact apz_at_pn HAB.out (by omega)⟩, _, rfl⟩
                · subst hxz
                  go_wp2_with fail
                  refine (pow10_at _ (-(d : Int)) _ (by first | omega | (have := Hd0.out; omega)) (by omega) (by omega) (by first | exact HPW.out | exact HPW.out.drewN _)).mono ?_
                  rintro e w1 ⟨y1, rfl, hy1, q1, rfl⟩
                  obtain ⟨r1, hr1, hA1⟩ := apz_a Hn1.out Hn15.out HFA.out hy1 hd20
                  have rm1 := fun w => run_float_arith (P := Tryd.prog) w .mul 26 .f64 f0 y1 r1 hr1
                  have HA1 := hide hA1
                  clear hr1 hA1 hy1
                  go_wp2_with fail
                  refine (pow10_at _ ((-(k : Int))) _ (by first | omega | (have := Hd0.out; omega)) (by omega) (by omega) (by first | exact HPW.out | exact HPW.out.drewN _)).mono ?_
                  rintro e w2 ⟨y2, rfl, hy2, q2, rfl⟩
                  obtain ⟨r2, hr2, hA2⟩ := apz_b Hn1.out Hn15.out HA1.out hd20 hy2 x1 x2
                  have rm2 := fun w => run_float_arith (P := Tryd.prog) w .mul 26 .f64 r1 y2 r2 hr2
                  have HA2 := hide hA2
                  clear hr2 hA2 hy2
                  cases hte : (FloatKind.f64.format.order r2 0 == some .eq) with
                  | true =>
                    go_wp2_with fail
                    refine (pow10_at _ ((-(k : Int)) - (d : Int)) _ (by first | omega | (have := Hd0.out; omega)) (by omega) (by omega) (by first | exact HPW.out | exact HPW.out.drewN _)).mono ?_
                    rintro e w3 ⟨y3, rfl, hy3, q3, rfl⟩
                    obtain ⟨r3, hr3, hA3⟩ := apz_one Hn1.out Hn15.out HFA.out hy3 (by omega) (by omega)
                    have rm3 := fun w => run_float_arith (P := Tryd.prog) w .mul 26 .f64 f0 y3 r3 hr3
                    have HA3 := hide hA3
                    clear hr3 hA3 hy3
                    go_wp2
                    all_goals go_ret2
                    all_goals first | exact ⟨_, ret_fi (by first | omega | (have := HL.out; omega)), ⟨fun h => by have := Hn0.out; omega, fun _ => by rw [← HnP.out]; exact apz_at_pn HA3.out (by omega)⟩, 0, rfl⟩ | exact ⟨_, ret_fi (by first | omega | (have := HL.out; omega)), ⟨fun h => by have := Hn0.out; omega, fun _ => by rw [← HnP.out]; exact apz_at_pn HA3.out (by omega)⟩, _, rfl⟩
                  | false =>
                    go_wp2_with fail
                    refine (isInf_any _ _).mono ?_
                    rintro e w3 ⟨⟨tb, rfl⟩, rfl⟩
                    cases tb
                    · skip
                      go_wp2
                      all_goals go_ret2
                      all_goals first | exact ⟨_, ret_fi (by first | omega | (have := HL.out; omega)), ⟨fun h => by have := Hn0.out; omega, fun _ => by rw [← HnP.out]; exact apz_at_pn HA2.out (by omega)⟩, 0, rfl⟩ | exact ⟨_, ret_fi (by first | omega | (have := HL.out; omega)), ⟨fun h => by have := Hn0.out; omega, fun _ => by rw [← HnP.out]; exact apz_at_pn HA2.out (by omega)⟩, _, rfl⟩
                    · skip
                      go_wp2_with fail
                      refine (pow10_at _ ((-(k : Int)) - (d : Int)) _ (by first | omega | (have := Hd0.out; omega)) (by omega) (by omega) (by first | exact HPW.out | exact HPW.out.drewN _)).mono ?_
                      rintro e w3 ⟨y3, rfl, hy3, q3, rfl⟩
                      obtain ⟨r3, hr3, hA3⟩ := apz_one Hn1.out Hn15.out HFA.out hy3 (by omega) (by omega)
                      have rm3 := fun w => run_float_arith (P := Tryd.prog) w .mul 26 .f64 f0 y3 r3 hr3
                      have HA3 := hide hA3
                      clear hr3 hA3 hy3
                      go_wp2
                      all_goals go_ret2
                      all_goals first | exact ⟨_, ret_fi (by first | omega | (have := HL.out; omega)), ⟨fun h => by have := Hn0.out; omega, fun _ => by rw [← HnP.out]; exact apz_at_pn HA3.out (by omega)⟩, 0, rfl⟩ | exact ⟨_, ret_fi (by first | omega | (have := HL.out; omega)), ⟨fun h => by have := Hn0.out; omega, fun _ => by rw [← HnP.out]; exact apz_at_pn HA3.out (by omega)⟩, _, rfl⟩
      · obtain rfl : dt = (p : Int) := by rw [hdt.out, if_neg (by rw [if_neg hd0] at hi1; omega)]
        have hi1b : ((i : Int) == 1) = false := by rw [beq_eq_false_iff_ne]; rw [if_neg hd0] at hi1; omega
        have hdm1 : ((p : Int) == -1) = false := by rw [beq_eq_false_iff_ne]; omega
        have hlp : ¬ (i : Int) < (p : Int) := by rw [if_neg hd0] at hi1; omega
        have hme : (i : Int) - (p : Int) - 1 = (d : Int) := by rw [if_neg hd0] at hi1; omega
        have hdk0 : ((d : Int) == 0) = false := by rw [beq_eq_false_iff_ne]; omega
        clear hdt hi1
        rcases HE.out with ⟨hx, hL, hno⟩ | hE
        · have Hno := hide hno
          have HL := hide hL
          clear hno hL
          subst hx
          by_cases hT : i < b.length
          · obtain ⟨c2, hc⟩ : ∃ c2, b[i]? = some c2 := ⟨_, List.getElem?_eq_getElem hT⟩
            obtain ⟨hcd, hc46⟩ := hend c2 hc
            obtain ⟨hc101, hc69⟩ := Hno.out c2 hc
            obtain ⟨b2, o2, e2, cell⟩ := Hbs.out.at_ hc
            simp only [Option.some.injEq, Addr.mk.injEq, and_true] at e2
            obtain ⟨rfl, rfl⟩ := e2
            have hb46 : ((c2.toNat : Int) == 46) = false := by rw [beq_eq_false_iff_ne]; intro e; exact hc46 (UInt8.toNat_inj.1 (by simp; omega))
            have hb101 : ((c2.toNat : Int) == 101) = false := by rw [beq_eq_false_iff_ne]; intro e; exact hc101 (UInt8.toNat_inj.1 (by simp; omega))
            have hb69 : ((c2.toNat : Int) == 69) = false := by rw [beq_eq_false_iff_ne]; intro e; exact hc69 (UInt8.toNat_inj.1 (by simp; omega))
            have hnd := notdig hcd
            clear hc hcd hc46 hend hc101 hc69
            by_cases h48 : (48 : Int) ≤ (c2.toNat : Int)
            · have h57 : ¬ (c2.toNat : Int) ≤ 57 := by omega
              clear hnd
              obtain ⟨y, hy, hYA⟩ := HT.out (d) (by omega)
              obtain ⟨r, hr, hAB⟩ := apz_div (z := (0 : Int) - (d : Int)) Hn1.out Hn15.out HFA.out hYA (by omega) (by first | omega | (have := Hd0.out; omega))
              have rm := fun w => run_float_arith (P := Tryd.prog) w .quo 26 .f64 f0 y r hr
              have HAB := hide hAB
              clear hr hAB hYA
              go_wp2
              all_goals go_ret2
              all_goals first | exact ⟨_, ret_fi (by first | omega | (have := HL.out; omega)), ⟨fun h => by have := Hn0.out; omega, fun _ => by rw [← HnP.out]; exact apz_at_pn HAB.out (by omega)⟩, 0, rfl⟩ | exact ⟨_, ret_fi (by first | omega | (have := HL.out; omega)), ⟨fun h => by have := Hn0.out; omega, fun _ => by rw [← HnP.out]; exact apz_at_pn HAB.out (by omega)⟩, _, rfl⟩
            · clear hnd
              obtain ⟨y, hy, hYA⟩ := HT.out (d) (by omega)
              obtain ⟨r, hr, hAB⟩ := apz_div (z := (0 : Int) - (d : Int)) Hn1.out Hn15.out HFA.out hYA (by omega) (by first | omega | (have := Hd0.out; omega))
              have rm := fun w => run_float_arith (P := Tryd.prog) w .quo 26 .f64 f0 y r hr
              have HAB := hide hAB
              clear hr hAB hYA
              go_wp2
              all_goals go_ret2
              all_goals first | exact ⟨_, ret_fi (by first | omega | (have := HL.out; omega)), ⟨fun h => by have := Hn0.out; omega, fun _ => by rw [← HnP.out]; exact apz_at_pn HAB.out (by omega)⟩, 0, rfl⟩ | exact ⟨_, ret_fi (by first | omega | (have := HL.out; omega)), ⟨fun h => by have := Hn0.out; omega, fun _ => by rw [← HnP.out]; exact apz_at_pn HAB.out (by omega)⟩, _, rfl⟩
          · clear hend
            obtain ⟨y, hy, hYA⟩ := HT.out (d) (by omega)
            obtain ⟨r, hr, hAB⟩ := apz_div (z := (0 : Int) - (d : Int)) Hn1.out Hn15.out HFA.out hYA (by omega) (by first | omega | (have := Hd0.out; omega))
            have rm := fun w => run_float_arith (P := Tryd.prog) w .quo 26 .f64 f0 y r hr
            have HAB := hide hAB
            clear hr hAB hYA
            go_wp2
            all_goals go_ret2
            all_goals first | exact ⟨_, ret_fi (by first | omega | (have := HL.out; omega)), ⟨fun h => by have := Hn0.out; omega, fun _ => by rw [← HnP.out]; exact apz_at_pn HAB.out (by omega)⟩, 0, rfl⟩ | exact ⟨_, ret_fi (by first | omega | (have := HL.out; omega)), ⟨fun h => by have := Hn0.out; omega, fun _ => by rw [← HnP.out]; exact apz_at_pn HAB.out (by omega)⟩, _, rfl⟩
        · skip
          obtain ⟨r, hr, hrd, hL⟩ := hE
          have HL0 := hide hL
          have Hrd := hide hrd
          have hb101 : b[i]? = some 101 := by have := congrArg (·[0]?) hr; simpa using this
          have hdr : b.drop (i + 1) = decI x ++ r := by rw [← List.drop_drop, hr]; rfl
          have hT : i < b.length := (List.getElem?_eq_some_iff.1 hb101).1
          obtain ⟨b2, o2, e2, cell⟩ := Hbs.out.at_ hb101
          simp only [Option.some.injEq, Addr.mk.injEq, and_true] at e2
          obtain ⟨rfl, rfl⟩ := e2
          have cell2 : w.cell? ⟨b0, o0 + i, none⟩ = some (.int .u8 101) := cell
          have hbl : (decI x ++ r).length = b.length - (i + 1) := by rw [← hdr]; simp
          have Hbl := hide hbl
          have HB2 : Hid (BS w (some ⟨b0, o0 + (i + 1), none⟩) (decI x ++ r)) := hide (hdr ▸ Hbs.out.cut rfl (i + 1))
          have hib2 : i + 1 < b.length := by have h1 := decI_pos_len x; have h2 := hbl; rw [List.length_append] at h2; omega
          have hcne : ¬ c = i + 1 := by omega
          have hmb : i + 1 + (decI x).length ≤ b.length := by have h2 := hbl; rw [List.length_append] at h2; omega
          have Hmb := hide hmb
          have Hm := hide (decI_pos_len x)
          clear hr hrd hL hb101 hdr cell hend hbl hmb
          go_wp2_with fail
          refine (parseInt_dec _ x r _ _ _ (Hbl.out.trans (by omega)) HB2.out (by omega) Hrd.out (by omega) (by omega)).mono ?_
          rintro e w1 ⟨rfl, rfl⟩
          obtain ⟨m, hm⟩ : ∃ m, (decI x).length = m := ⟨_, rfl⟩
          have hm0 : 0 < m := by have := Hm.out; omega
          have HL := hide (show L = i + 1 + m by have := HL0.out; omega)
          have hmb : i + 1 + m ≤ b.length := by have := Hmb.out; omega
          rw [hm]
          clear hm Hm HB2 Hrd Hbl Hmb HL0
          by_cases zz : x - (d : Int) = 0
          · have hxz : x - (d : Int) = 0 := zz
            have HAB := hide (apz_nil (z := x - (d : Int)) HFA.out (by first | omega | (have := Hd0.out; omega)))
            go_wp2
            all_goals go_ret2
            all_goals first | exact ⟨_, ret_fi (by first | omega | (have := HL.out; omega)), ⟨fun h => by have := Hn0.out; omega, fun _ => by rw [← HnP.out]; exact apz_at_pn HAB.out (by omega)⟩, 0, rfl⟩ | exact ⟨_, ret_fi (by first | omega | (have := HL.out; omega)), ⟨fun h => by have := Hn0.out; omega, fun _ => by rw [← HnP.out]; exact apz_at_pn HAB.out (by omega)⟩, _, rfl⟩
          · by_cases zp : 0 < x - (d : Int)
            · by_cases zf : x - (d : Int) ≤ 22
              · obtain ⟨k, hxz⟩ : ∃ k : Nat, x - (d : Int) = (k : Int) := ⟨(x - (d : Int)).toNat, by first | omega | (have := Hd0.out; omega)⟩
                have hk0 : ((k : Int) == 0) = false := by rw [beq_eq_false_iff_ne]; first | omega | (have := Hd0.out; omega)
                have hk1 : (0 : Int) < (k : Int) := by first | omega | (have := Hd0.out; omega)
                have hk2 : (k : Int) ≤ 22 := by first | omega | (have := Hd0.out; omega)
                skip
                obtain ⟨y, hy, hYA⟩ := HT.out (k) (by omega)
                obtain ⟨r, hr, hAB⟩ := apz_mul (z := x - (d : Int)) Hn1.out Hn15.out HFA.out hYA (by omega) (by first | omega | (have := Hd0.out; omega))
                have rm := fun w => run_float_arith (P := Tryd.prog) w .mul 26 .f64 f0 y r hr
                have HAB := hide hAB
                clear hr hAB hYA
                cases ht1 : (FloatKind.f64.format.order 14054727237768577024 f0 == some .lt || FloatKind.f64.format.order 14054727237768577024 f0 == some .eq) with
                | true =>
                  cases ht2 : (FloatKind.f64.format.order f0 4831355200913801216 == some .lt || FloatKind.f64.format.order f0 4831355200913801216 == some .eq) with
                  | true =>
                    go_wp2
                    all_goals go_ret2
                    all_goals first | exact ⟨_, ret_fi (by first | omega | (have := HL.out; omega)), ⟨fun h => by have := Hn0.out; omega, fun _ => by rw [← HnP.out]; exact apz_at_pn HAB.out (by omega)⟩, 0, rfl⟩ | exact ⟨_, ret_fi (by first | omega | (have := HL.out; omega)), ⟨fun h => by have := Hn0.out; omega, fun _ => by rw [← HnP.out]; exact apz_at_pn HAB.out (by omega)⟩, _, rfl⟩
                  | false =>
                    go_wp2_with fail
                    refine (pow10_at _ (-(d : Int)) _ (by first | omega | (have := Hd0.out; omega)) (by omega) (by omega) (by first | exact HPW.out | exact HPW.out.drewN _)).mono ?_
                    rintro e w1 ⟨y1, rfl, hy1, q1, rfl⟩
                    obtain ⟨r1, hr1, hA1⟩ := apz_a Hn1.out Hn15.out HFA.out hy1 hd20
                    have rm1 := fun w => run_float_arith (P := Tryd.prog) w .mul 26 .f64 f0 y1 r1 hr1
                    have HA1 := hide hA1
                    clear hr1 hA1 hy1
                    go_wp2_with fail
                    refine (pow10_at _ (x) _ (by first | omega | (have := Hd0.out; omega)) (by omega) (by omega) (by first | exact HPW.out | exact HPW.out.drewN _)).mono ?_
                    rintro e w2 ⟨y2, rfl, hy2, q2, rfl⟩
                    obtain ⟨r2, hr2, hA2⟩ := apz_b Hn1.out Hn15.out HA1.out hd20 hy2 x1 x2
                    have rm2 := fun w => run_float_arith (P := Tryd.prog) w .mul 26 .f64 r1 y2 r2 hr2
                    have HA2 := hide hA2
                    clear hr2 hA2 hy2
                    cases hte : (FloatKind.f64.format.order r2 0 == some .eq) with
                    | true =>
                      go_wp2_with fail
                      refine (pow10_at _ (x - (d : Int)) _ (by first | omega | (have := Hd0.out; omega)) (by omega) (by omega) (by first | exact HPW.out | exact HPW.out.drewN _)).mono ?_
                      rintro e w3 ⟨y3, rfl, hy3, q3, rfl⟩
                      obtain ⟨r3, hr3, hA3⟩ := apz_one Hn1.out Hn15.out HFA.out hy3 (by omega) (by omega)
                      have rm3 := fun w => run_float_arith (P := Tryd.prog) w .mul 26 .f64 f0 y3 r3 hr3
                      have HA3 := hide hA3
                      clear hr3 hA3 hy3
                      go_wp2
                      all_goals go_ret2
                      all_goals first | exact ⟨_, ret_fi (by first | omega | (have := HL.out; omega)), ⟨fun h => by have := Hn0.out; omega, fun _ => by rw [← HnP.out]; exact apz_at_pn HA3.out (by omega)⟩, 0, rfl⟩ | exact ⟨_, ret_fi (by first | omega | (have := HL.out; omega)), ⟨fun h => by have := Hn0.out; omega, fun _ => by rw [← HnP.out]; exact apz_at_pn HA3.out (by omega)⟩, _, rfl⟩
                    | false =>
                      go_wp2_with fail
                      refine (isInf_any _ _).mono ?_
                      rintro e w3 ⟨⟨tb, rfl⟩, rfl⟩
                      cases tb
                      · skip
                        go_wp2
                        all_goals go_ret2
                        all_goals first | exact ⟨_, ret_fi (by first | omega | (have := HL.out; omega)), ⟨fun h => by have := Hn0.out; omega, fun _ => by rw [← HnP.out]; exact apz_at_pn HA2.out (by omega)⟩, 0, rfl⟩ | exact ⟨_, ret_fi (by first | omega | (have := HL.out; omega)), ⟨fun h => by have := Hn0.out; omega, fun _ => by rw [← HnP.out]; exact apz_at_pn HA2.out (by omega)⟩, _, rfl⟩
                      · skip
                        go_wp2_with fail
                        refine (pow10_at _ (x - (d : Int)) _ (by first | omega | (have := Hd0.out; omega)) (by omega) (by omega) (by first | exact HPW.out | exact HPW.out.drewN _)).mono ?_
                        rintro e w3 ⟨y3, rfl, hy3, q3, rfl⟩
                        obtain ⟨r3, hr3, hA3⟩ := apz_one Hn1.out Hn15.out HFA.out hy3 (by omega) (by omega)
                        have rm3 := fun w => run_float_arith (P := Tryd.prog) w .mul 26 .f64 f0 y3 r3 hr3
                        have HA3 := hide hA3
                        clear hr3 hA3 hy3
                        go_wp2
                        all_goals go_ret2
                        all_goals first | exact ⟨_, ret_fi (by first | omega | (have := HL.out; omega)), ⟨fun h => by have := Hn0.out; omega, fun _ => by rw [← HnP.out]; exact apz_at_pn HA3.out (by omega)⟩, 0, rfl⟩ | exact ⟨_, ret_fi (by first | omega | (have := HL.out; omega)), ⟨fun h => by have := Hn0.out; omega, fun _ => by rw [← HnP.out]; exact apz_at_pn HA3.out (by omega)⟩, _, rfl⟩
                | false =>
                  go_wp2_with fail
                  refine (pow10_at _ (-(d : Int)) _ (by first | omega | (have := Hd0.out; omega)) (by omega) (by omega) (by first | exact HPW.out | exact HPW.out.drewN _)).mono ?_
                  rintro e w1 ⟨y1, rfl, hy1, q1, rfl⟩
                  obtain ⟨r1, hr1, hA1⟩ := apz_a Hn1.out Hn15.out HFA.out hy1 hd20
                  have rm1 := fun w => run_float_arith (P := Tryd.prog) w .mul 26 .f64 f0 y1 r1 hr1
                  have HA1 := hide hA1
                  clear hr1 hA1 hy1
                  go_wp2_with fail
                  refine (pow10_at _ (x) _ (by first | omega | (have := Hd0.out; omega)) (by omega) (by omega) (by first | exact HPW.out | exact HPW.out.drewN _)).mono ?_
                  rintro e w2 ⟨y2, rfl, hy2, q2, rfl⟩
                  obtain ⟨r2, hr2, hA2⟩ := apz_b Hn1.out Hn15.out HA1.out hd20 hy2 x1 x2
                  have rm2 := fun w => run_float_arith (P := Tryd.prog) w .mul 26 .f64 r1 y2 r2 hr2
                  have HA2 := hide hA2
                  clear hr2 hA2 hy2
                  cases hte : (FloatKind.f64.format.order r2 0 == some .eq) with
                  | true =>
                    go_wp2_with fail
                    refine (pow10_at _ (x - (d : Int)) _ (by first | omega | (have := Hd0.out; omega)) (by omega) (by omega) (by first | exact HPW.out | exact HPW.out.drewN _)).mono ?_
                    rintro e w3 ⟨y3, rfl, hy3, q3, rfl⟩
                    obtain ⟨r3, hr3, hA3⟩ := apz_one Hn1.out Hn15.out HFA.out hy3 (by omega) (by omega)
                    have rm3 := fun w => run_float_arith (P := Tryd.prog) w .mul 26 .f64 f0 y3 r3 hr3
                    have HA3 := hide hA3
                    clear hr3 hA3 hy3
                    go_wp2
                    all_goals go_ret2
                    all_goals first | exact ⟨_, ret_fi (by first | omega | (have := HL.out; omega)), ⟨fun h => by have := Hn0.out; omega, fun _ => by rw [← HnP.out]; exact apz_at_pn HA3.out (by omega)⟩, 0, rfl⟩ | exact ⟨_, ret_fi (by first | omega | (have := HL.out; omega)), ⟨fun h => by have := Hn0.out; omega, fun _ => by rw [← HnP.out]; exact apz_at_pn HA3.out (by omega)⟩, _, rfl⟩
                  | false =>
                    go_wp2_with fail
                    refine (isInf_any _ _).mono ?_
                    rintro e w3 ⟨⟨tb, rfl⟩, rfl⟩
                    cases tb
                    · skip
                      go_wp2
                      all_goals go_ret2
                      all_goals first | exact ⟨_, ret_fi (by first | omega | (have := HL.out; omega)), ⟨fun h => by have := Hn0.out; omega, fun _ => by rw [← HnP.out]; exact apz_at_pn HA2.out (by omega)⟩, 0, rfl⟩ | exact ⟨_, ret_fi (by first | omega | (have := HL.out; omega)), ⟨fun h => by have := Hn0.out; omega, fun _ => by rw [← HnP.out]; exact apz_at_pn HA2.out (by omega)⟩, _, rfl⟩
                    · skip
                      go_wp2_with fail
                      refine (pow10_at _ (x - (d : Int)) _ (by first | omega | (have := Hd0.out; omega)) (by omega) (by omega) (by first | exact HPW.out | exact HPW.out.drewN _)).mono ?_
                      rintro e w3 ⟨y3, rfl, hy3, q3, rfl⟩
                      obtain ⟨r3, hr3, hA3⟩ := apz_one Hn1.out Hn15.out HFA.out hy3 (by omega) (by omega)
                      have rm3 := fun w => run_float_arith (P := Tryd.prog) w .mul 26 .f64 f0 y3 r3 hr3
                      have HA3 := hide hA3
                      clear hr3 hA3 hy3
                      go_wp2
                      all_goals go_ret2
                      all_goals first | exact ⟨_, ret_fi (by first | omega | (have := HL.out; omega)), ⟨fun h => by have := Hn0.out; omega, fun _ => by rw [← HnP.out]; exact apz_at_pn HA3.out (by omega)⟩, 0, rfl⟩ | exact ⟨_, ret_fi (by first | omega | (have := HL.out; omega)), ⟨fun h => by have := Hn0.out; omega, fun _ => by rw [← HnP.out]; exact apz_at_pn HA3.out (by omega)⟩, _, rfl⟩
              · obtain ⟨k, hxz⟩ : ∃ k : Nat, x - (d : Int) = (k : Int) := ⟨(x - (d : Int)).toNat, by first | omega | (have := Hd0.out; omega)⟩
                obtain ⟨j, hj⟩ : ∃ j : Nat, (k : Int) - 22 = (j : Int) := ⟨((k : Int) - 22).toNat, by first | omega | (have := Hd0.out; omega)⟩
                have hk0 : ((k : Int) == 0) = false := by rw [beq_eq_false_iff_ne]; first | omega | (have := Hd0.out; omega)
                have hk1 : (22 : Int) < (k : Int) := by first | omega | (have := Hd0.out; omega)
                have hk2 : (k : Int) ≤ 30 := by first | omega | (have := Hd0.out; omega)
                have hj8 : j ≤ 8 := by first | omega | (have := Hd0.out; omega)
                skip
                obtain ⟨y, hy, hYA⟩ := HT.out (j) (by omega)
                obtain ⟨u, hu, hUA⟩ := HT.out (22) (by omega)
                obtain ⟨g, r, hg, hr, hAB⟩ := apz_mul2 (z := x - (d : Int)) Hn1.out Hn15.out HFA.out hYA hUA (by omega) (by first | omega | (have := Hd0.out; omega))
                have rm := fun w => run_float_arith (P := Tryd.prog) w .mul 26 .f64 f0 y g hg
                have rn := fun w => run_float_arith (P := Tryd.prog) w .mul 26 .f64 g u r hr
                have HAB := hide hAB
                clear hg hr hAB hYA hUA
                cases ht1 : (FloatKind.f64.format.order 14054727237768577024 g == some .lt || FloatKind.f64.format.order 14054727237768577024 g == some .eq) with
                | true =>
                  cases ht2 : (FloatKind.f64.format.order g 4831355200913801216 == some .lt || FloatKind.f64.format.order g 4831355200913801216 == some .eq) with
                  | true =>
                    go_wp2
                    all_goals go_ret2
                    all_goals first | exact ⟨_, ret_fi (by first | omega | (have := HL.out; omega)), ⟨fun h => by have := Hn0.out; omega, fun _ => by rw [← HnP.out]; exact apz_at_pn HAB.out (by omega)⟩, 0, rfl⟩ | exact ⟨_, ret_fi (by first | omega | (have := HL.out; omega)), ⟨fun h => by have := Hn0.out; omega, fun _ => by rw [← HnP.out]; exact apz_at_pn HAB.out (by omega)⟩, _, rfl⟩
                  | false =>
                    go_wp2_with fail
                    refine (pow10_at _ (-(d : Int)) _ (by first | omega | (have := Hd0.out; omega)) (by omega) (by omega) (by first | exact HPW.out | exact HPW.out.drewN _)).mono ?_
                    rintro e w1 ⟨y1, rfl, hy1, q1, rfl⟩
                    obtain ⟨r1, hr1, hA1⟩ := apz_a Hn1.out Hn15.out HFA.out hy1 hd20
                    have rm1 := fun w => run_float_arith (P := Tryd.prog) w .mul 26 .f64 f0 y1 r1 hr1
                    have HA1 := hide hA1
                    clear hr1 hA1 hy1
                    go_wp2_with fail
                    refine (pow10_at _ (x) _ (by first | omega | (have := Hd0.out; omega)) (by omega) (by omega) (by first | exact HPW.out | exact HPW.out.drewN _)).mono ?_
                    rintro e w2 ⟨y2, rfl, hy2, q2, rfl⟩
                    obtain ⟨r2, hr2, hA2⟩ := apz_b Hn1.out Hn15.out HA1.out hd20 hy2 x1 x2
                    have rm2 := fun w => run_float_arith (P := Tryd.prog) w .mul 26 .f64 r1 y2 r2 hr2
                    have HA2 := hide hA2
                    clear hr2 hA2 hy2
                    cases hte : (FloatKind.f64.format.order r2 0 == some .eq) with
                    | true =>
                      go_wp2_with fail
                      refine (pow10_at _ (x - (d : Int)) _ (by first | omega | (have := Hd0.out; omega)) (by omega) (by omega) (by first | exact HPW.out | exact HPW.out.drewN _)).mono ?_
                      rintro e w3 ⟨y3, rfl, hy3, q3, rfl⟩
                      obtain ⟨r3, hr3, hA3⟩ := apz_one Hn1.out Hn15.out HFA.out hy3 (by omega) (by omega)
                      have rm3 := fun w => run_float_arith (P := Tryd.prog) w .mul 26 .f64 f0 y3 r3 hr3
                      have HA3 := hide hA3
                      clear hr3 hA3 hy3
                      go_wp2
                      all_goals go_ret2
                      all_goals first | exact ⟨_, ret_fi (by first | omega | (have := HL.out; omega)), ⟨fun h => by have := Hn0.out; omega, fun _ => by rw [← HnP.out]; exact apz_at_pn HA3.out (by omega)⟩, 0, rfl⟩ | exact ⟨_, ret_fi (by first | omega | (have := HL.out; omega)), ⟨fun h => by have := Hn0.out; omega, fun _ => by rw [← HnP.out]; exact apz_at_pn HA3.out (by omega)⟩, _, rfl⟩
                    | false =>
                      go_wp2_with fail
                      refine (isInf_any _ _).mono ?_
                      rintro e w3 ⟨⟨tb, rfl⟩, rfl⟩
                      cases tb
                      · skip
                        go_wp2
                        all_goals go_ret2
                        all_goals first | exact ⟨_, ret_fi (by first | omega | (have := HL.out; omega)), ⟨fun h => by have := Hn0.out; omega, fun _ => by rw [← HnP.out]; exact apz_at_pn HA2.out (by omega)⟩, 0, rfl⟩ | exact ⟨_, ret_fi (by first | omega | (have := HL.out; omega)), ⟨fun h => by have := Hn0.out; omega, fun _ => by rw [← HnP.out]; exact apz_at_pn HA2.out (by omega)⟩, _, rfl⟩
                      · skip
                        go_wp2_with fail
                        refine (pow10_at _ (x - (d : Int)) _ (by first | omega | (have := Hd0.out; omega)) (by omega) (by omega) (by first | exact HPW.out | exact HPW.out.drewN _)).mono ?_
                        rintro e w3 ⟨y3, rfl, hy3, q3, rfl⟩
                        obtain ⟨r3, hr3, hA3⟩ := apz_one Hn1.out Hn15.out HFA.out hy3 (by omega) (by omega)
                        have rm3 := fun w => run_float_arith (P := Tryd.prog) w .mul 26 .f64 f0 y3 r3 hr3
                        have HA3 := hide hA3
                        clear hr3 hA3 hy3
                        go_wp2
                        all_goals go_ret2
                        all_goals first | exact ⟨_, ret_fi (by first | omega | (have := HL.out; omega)), ⟨fun h => by have := Hn0.out; omega, fun _ => by rw [← HnP.out]; exact apz_at_pn HA3.out (by omega)⟩, 0, rfl⟩ | exact ⟨_, ret_fi (by first | omega | (have := HL.out; omega)), ⟨fun h => by have := Hn0.out; omega, fun _ => by rw [← HnP.out]; exact apz_at_pn HA3.out (by omega)⟩, _, rfl⟩
                | false =>
                  go_wp2_with fail
                  refine (pow10_at _ (-(d : Int)) _ (by first | omega | (have := Hd0.out; omega)) (by omega) (by omega) (by first | exact HPW.out | exact HPW.out.drewN _)).mono ?_
                  rintro e w1 ⟨y1, rfl, hy1, q1, rfl⟩
                  obtain ⟨r1, hr1, hA1⟩ := apz_a Hn1.out Hn15.out HFA.out hy1 hd20
                  have rm1 := fun w => run_float_arith (P := Tryd.prog) w .mul 26 .f64 f0 y1 r1 hr1
                  have HA1 := hide hA1
                  clear hr1 hA1 hy1
                  go_wp2_with fail
                  refine (pow10_at _ (x) _ (by first | omega | (have := Hd0.out; omega)) (by omega) (by omega) (by first | exact HPW.out | exact HPW.out.drewN _)).mono ?_
                  rintro e w2 ⟨y2, rfl, hy2, q2, rfl⟩
                  obtain ⟨r2, hr2, hA2⟩ := apz_b Hn1.out Hn15.out HA1.out hd20 hy2 x1 x2
                  have rm2 := fun w => run_float_arith (P := Tryd.prog) w .mul 26 .f64 r1 y2 r2 hr2
                  have HA2 := hide hA2
                  clear hr2 hA2 hy2
                  cases hte : (FloatKind.f64.format.order r2 0 == some .eq) with
                  | true =>
                    go_wp2_with fail
                    refine (pow10_at _ (x - (d : Int)) _ (by first | omega | (have := Hd0.out; omega)) (by omega) (by omega) (by first | exact HPW.out | exact HPW.out.drewN _)).mono ?_
                    rintro e w3 ⟨y3, rfl, hy3, q3, rfl⟩
                    obtain ⟨r3, hr3, hA3⟩ := apz_one Hn1.out Hn15.out HFA.out hy3 (by omega) (by omega)
                    have rm3 := fun w => run_float_arith (P := Tryd.prog) w .mul 26 .f64 f0 y3 r3 hr3
                    have HA3 := hide hA3
                    clear hr3 hA3 hy3
                    go_wp2
                    all_goals go_ret2
                    all_goals first | exact ⟨_, ret_fi (by first | omega | (have := HL.out; omega)), ⟨fun h => by have := Hn0.out; omega, fun _ => by rw [← HnP.out]; exact apz_at_pn HA3.out (by omega)⟩, 0, rfl⟩ | exact ⟨_, ret_fi (by first | omega | (have := HL.out; omega)), ⟨fun h => by have := Hn0.out; omega, fun _ => by rw [← HnP.out]; exact apz_at_pn HA3.out (by omega)⟩, _, rfl⟩
                  | false =>
                    go_wp2_with fail
                    refine (isInf_any _ _).mono ?_
                    rintro e w3 ⟨⟨tb, rfl⟩, rfl⟩
                    cases tb
                    · skip
                      go_wp2
                      all_goals go_ret2
                      all_goals first | exact ⟨_, ret_fi (by first | omega | (have := HL.out; omega)), ⟨fun h => by have := Hn0.out; omega, fun _ => by rw [← HnP.out]; exact apz_at_pn HA2.out (by omega)⟩, 0, rfl⟩ | exact ⟨_, ret_fi (by first | omega | (have := HL.out; omega)), ⟨fun h => by have := Hn0.out; omega, fun _ => by rw [← HnP.out]; exact apz_at_pn HA2.out (by omega)⟩, _, rfl⟩
                    · skip
                      go_wp2_with fail
                      refine (pow10_at _ (x - (d : Int)) _ (by first | omega | (have := Hd0.out; omega)) (by omega) (by omega) (by first | exact HPW.out | exact HPW.out.drewN _)).mono ?_
                      rintro e w3 ⟨y3, rfl, hy3, q3, rfl⟩
                      obtain ⟨r3, hr3, hA3⟩ := apz_one Hn1.out Hn15.out HFA.out hy3 (by omega) (by omega)
                      have rm3 := fun w => run_float_arith (P := Tryd.prog) w .mul 26 .f64 f0 y3 r3 hr3
                      have HA3 := hide hA3
                      clear hr3 hA3 hy3
                      go_wp2
                      all_goals go_ret2
                      all_goals first | exact ⟨_, ret_fi (by first | omega | (have := HL.out; omega)), ⟨fun h => by have := Hn0.out; omega, fun _ => by rw [← HnP.out]; exact apz_at_pn HA3.out (by omega)⟩, 0, rfl⟩ | exact ⟨_, ret_fi (by first | omega | (have := HL.out; omega)), ⟨fun h => by have := Hn0.out; omega, fun _ => by rw [← HnP.out]; exact apz_at_pn HA3.out (by omega)⟩, _, rfl⟩
            · obtain ⟨k, hxz⟩ : ∃ k : Nat, x - (d : Int) = -(k : Int) := ⟨(-(x - (d : Int))).toNat, by first | omega | (have := Hd0.out; omega)⟩
              have hk0 : ((k : Int) == 0) = false := by rw [beq_eq_false_iff_ne]; first | omega | (have := Hd0.out; omega)
              have hk1 : (0 : Int) < (k : Int) := by first | omega | (have := Hd0.out; omega)
              have hk50 : (k : Int) ≤ 50 := by first | omega | (have := Hd0.out; omega)
              by_cases zf : (k : Int) ≤ 22
              · skip
                obtain ⟨y, hy, hYA⟩ := HT.out (k) (by omega)
                obtain ⟨r, hr, hAB⟩ := apz_div (z := x - (d : Int)) Hn1.out Hn15.out HFA.out hYA (by omega) (by first | omega | (have := Hd0.out; omega))
                have rm := fun w => run_float_arith (P := Tryd.prog) w .quo 26 .f64 f0 y r hr
                have HAB := hide hAB
                clear hr hAB hYA
                go_wp2
                all_goals go_ret2
                all_goals first | exact ⟨_, ret_fi (by first | omega | (have := HL.out; omega)), ⟨fun h => by have := Hn0.out; omega, fun _ => by rw [← HnP.out]; exact apz_at_pn HAB.out (by omega)⟩, 0, rfl⟩ | exact ⟨_, ret_fi (by first | omega | (have := HL.out; omega)), ⟨fun h => by have := Hn0.out; omega, fun _ => by rw [← HnP.out]; exact apz_at_pn HAB.out (by omega)⟩, _, rfl⟩
              · skip
                go_wp2_with fail
                refine (pow10_at _ (-(d : Int)) _ (by first | omega | (have := Hd0.out; omega)) (by omega) (by omega) (by first | exact HPW.out | exact HPW.out.drewN _)).mono ?_
                rintro e w1 ⟨y1, rfl, hy1, q1, rfl⟩
                obtain ⟨r1, hr1, hA1⟩ := apz_a Hn1.out Hn15.out HFA.out hy1 hd20
                have rm1 := fun w => run_float_arith (P := Tryd.prog) w .mul 26 .f64 f0 y1 r1 hr1
                have HA1 := hide hA1
                clear hr1 hA1 hy1
                go_wp2_with fail
                refine (pow10_at _ (x) _ (by first | omega | (have := Hd0.out; omega)) (by omega) (by omega) (by first | exact HPW.out | exact HPW.out.drewN _)).mono ?_
                rintro e w2 ⟨y2, rfl, hy2, q2, rfl⟩
                obtain ⟨r2, hr2, hA2⟩ := apz_b Hn1.out Hn15.out HA1.out hd20 hy2 x1 x2
                have rm2 := fun w => run_float_arith (P := Tryd.prog) w .mul 26 .f64 r1 y2 r2 hr2
                have HA2 := hide hA2
                clear hr2 hA2 hy2
                cases hte : (FloatKind.f64.format.order r2 0 == some .eq) with
                | true =>
                  go_wp2_with fail
                  refine (pow10_at _ (x - (d : Int)) _ (by first | omega | (have := Hd0.out; omega)) (by omega) (by omega) (by first | exact HPW.out | exact HPW.out.drewN _)).mono ?_
                  rintro e w3 ⟨y3, rfl, hy3, q3, rfl⟩
                  obtain ⟨r3, hr3, hA3⟩ := apz_one Hn1.out Hn15.out HFA.out hy3 (by omega) (by omega)
                  have rm3 := fun w => run_float_arith (P := Tryd.prog) w .mul 26 .f64 f0 y3 r3 hr3
                  have HA3 := hide hA3
                  clear hr3 hA3 hy3
                  go_wp2
                  all_goals go_ret2
                  all_goals first | exact ⟨_, ret_fi (by first | omega | (have := HL.out; omega)), ⟨fun h => by have := Hn0.out; omega, fun _ => by rw [← HnP.out]; exact apz_at_pn HA3.out (by omega)⟩, 0, rfl⟩ | exact ⟨_, ret_fi (by first | omega | (have := HL.out; omega)), ⟨fun h => by have := Hn0.out; omega, fun _ => by rw [← HnP.out]; exact apz_at_pn HA3.out (by omega)⟩, _, rfl⟩
                | false =>
                  go_wp2_with fail
                  refine (isInf_any _ _).mono ?_
                  rintro e w3 ⟨⟨tb, rfl⟩, rfl⟩
                  cases tb
                  · skip
                    go_wp2
                    all_goals go_ret2
                    all_goals first | exact ⟨_, ret_fi (by first | omega | (have := HL.out; omega)), ⟨fun h => by have := Hn0.out; omega, fun _ => by rw [← HnP.out]; exact apz_at_pn HA2.out (by omega)⟩, 0, rfl⟩ | exact ⟨_, ret_fi (by first | omega | (have := HL.out; omega)), ⟨fun h => by have := Hn0.out; omega, fun _ => by rw [← HnP.out]; exact apz_at_pn HA2.out (by omega)⟩, _, rfl⟩
                  · skip
                    go_wp2_with fail
                    refine (pow10_at _ (x - (d : Int)) _ (by first | omega | (have := Hd0.out; omega)) (by omega) (by omega) (by first | exact HPW.out | exact HPW.out.drewN _)).mono ?_
                    rintro e w3 ⟨y3, rfl, hy3, q3, rfl⟩
                    obtain ⟨r3, hr3, hA3⟩ := apz_one Hn1.out Hn15.out HFA.out hy3 (by omega) (by omega)
                    have rm3 := fun w => run_float_arith (P := Tryd.prog) w .mul 26 .f64 f0 y3 r3 hr3
                    have HA3 := hide hA3
                    clear hr3 hA3 hy3
                    go_wp2
                    all_goals go_ret2
                    all_goals first | exact ⟨_, ret_fi (by first | omega | (have := HL.out; omega)), ⟨fun h => by have := Hn0.out; omega, fun _ => by rw [← HnP.out]; exact apz_at_pn HA3.out (by omega)⟩, 0, rfl⟩ | exact ⟨_, ret_fi (by first | omega | (have := HL.out; omega)), ⟨fun h => by have := Hn0.out; omega, fun _ => by rw [← HnP.out]; exact apz_at_pn HA3.out (by omega)⟩, _, rfl⟩
end Go.Proofs.YtggemljdmoegnaaDoor
