/- The package's appending of a number with decimals and groups of digits to a full row of the call's own. Conditions: below 10^15, at most six decimals, groups of one to six digits; the row is shorter than 2^31. (printed by gen_appnum.py) -/
import Derived.Test.YtgalfebplancdaaAppNP
namespace Go.Proofs.Ytgalfebplancdaa
open Go.RowKit
set_option linter.unusedVariables false


set_option maxRecDepth 100000 in
set_option maxHeartbeats 4000000 in
theorem appNum_pos0 (base g m size : Nat) (l : List UInt8) (w : World) (own : OwnB w base (some ⟨g, 0, none⟩) l.length l.length l) (h1 : l.length ≤ 2147483647) (hb : base ≤ w.heap.size) (hm : m < 1000000000000000) (hs : 0 < size) (hs6 : size ≤ 6) :
    Calls Try.prog 9 #[.slice (some ⟨g, 0, none⟩) l.length l.length, .int .i64 (m : Int), .int .i64 0, .int .i64 (size : Int), .int .i32 44, .int .i32 46] w (OwnRetB base (l ++ grouped false m 0 size) w) := by
  obtain ⟨hD1, hD2⟩ := grouped_reckon m 0 size hs
  have hGle := groupedU_le m 0 size hs hm
  have hLp := dec_ne m
  have hL16 := dec_len_le 14 m (by simpa using hm)
  obtain ⟨G, hG⟩ : ∃ G, groupedU m 0 size = G := ⟨_, rfl⟩
  rw [hG] at hD1 hD2 hGle
  obtain ⟨D, hD⟩ : ∃ D, (dec m).length = D := ⟨_, rfl⟩
  rw [hD] at hD1 hD2 hLp hL16
  obtain ⟨T, hT⟩ : ∃ T, G.length = T := ⟨_, rfl⟩
  rw [hT] at hD1 hD2 hGle
  have HG := hide hG
  have HD := hide hD
  have HT := hide hT
  clear hG hD hT
  have hTe : (T : Int) = (D : Int) + ((D : Int) - 1) / (size : Int) := by
    have e := hD1 hLp
    rw [if_pos rfl] at e
    have e2 : ((((D - 0 - 1) / size : Nat)) : Int) = ((D : Int) - 1) / (size : Int) := by rw [Int.natCast_ediv]; congr 1; omega
    rw [← e2]; omega
  have hdv : 0 ≤ ((D : Int) - 1) / (size : Int) := Int.ediv_nonneg (by omega) (by omega)
  clear hD1 hD2
  have hTp : 0 < T := by omega
  have hsz1 : ((size : Int) == 0) = false := by rw [beq_eq_false_iff_ne]; omega
  obtain ⟨C, w2, hrun, own2, hbel2⟩ := run_append_zeros8 (P := Try.prog) 22 3 22 Try.underlying22 Try.underlying3 u8_info own (T + 0) (by omega) (by omega) hb
  have hCle := own2.le.1
  have Hrun := hide hrun
  have Hown := hide own2
  have hbel3 := hide (hbel2.mono hb)
  have hmi : (m : Int) ≤ 9223372036854775807 := by omega
  have Hm := hide hm
  clear hrun own2 hbel2 hm
  go_enter Try.func9, Try.ntmps9
  go_upto_region 21 with (first
    | (go_at_call 11; ((with_reducible refine (runeLen_any _ _ (by decide) (by decide)).mono ?_); rintro e w1 ⟨rfl, rfl⟩))
    | (go_at_call 12; ((with_reducible refine (lenInt_pos m D _ HD.out Hm.out).mono ?_); rintro e w1 ⟨rfl, rfl⟩)))
  rw [← hTe]
  have HTe := hide hTe
  clear hTe hdv
  have HbT : l.length + T ≤ 2147483747 := by omega
  by_cases hm0 : m = 0
  · subst hm0
    have hGe : [48] = G := by rw [← HG.out]; unfold groupedU; rw [show 0 / 10 ^ 0 / 10 = 0 from rfl, ints_zero]; rfl
    have hTl : T = 0 + 1 := by rw [← HT.out, ← hGe]; rfl
    subst hTl
    have hst := Hown.out.set (l.length + 0) 48
    have e0 : l ++ List.replicate (0 + 1) 0 = l ++ List.replicate (0 + 1) 0 ++ [] := by simp
    rw [show (0 + 1 + 0) = 0 + 1 from rfl, e0, set_mid] at hst
    have cell2 := Hown.out.cell (by rw [show (0 + 1 + 0) = 0 + 1 from rfl, e0]; exact get_mid l 0 [])
    simp only [show ((0 : UInt8).toNat : Int) = 0 from rfl] at cell2
    have frz2 := Hown.out.frozen (l.length + 0)
    simp only [show ((48 : UInt8).toNat : Int) = 48 from rfl] at hst
    simp only [Nat.add_zero] at cell2 frz2 hst
    have Hown3 := hide hst
    have Hbel3 := hide (hbel3.out.setCell (p := ⟨w.heap.size, l.length, none⟩) hb (.int .u8 48))
    have HGe := hide hGe
    clear hst hGe e0
    go_wp2_with (at_builtin; refine wpList_append_runU Hrun.out rfl _ _ rfl rfl rfl rfl ?_)
    go_ret
    have e1 : l ++ grouped false 0 0 size = l ++ List.replicate 0 0 ++ [48] := by unfold grouped; rw [HG.out, ← HGe.out]; simp
    have e2 : (l ++ grouped false 0 0 size).length = l.length + (0 + 1 + 0) := by rw [e1]; simp
    exact ⟨_, C, by rw [e2]; rfl, by rw [e2, e1]; exact Hown3.out, Hbel3.out⟩
  have hm0 : 0 < m := by omega
  have hqz : ((m : Int) == 0) = false := by rw [beq_eq_false_iff_ne]; omega
  have hqz2 : ((-(m : Int)) == 0) = false := by rw [beq_eq_false_iff_ne]; omega
  have Hat3 : Hid (IntsAt m 0 size 0 m []) := hide (by have := IntsAt.start m 0 size; rw [Nat.pow_zero, Nat.div_one] at this; exact this)
  have Hown2 : Hid (OwnB w2 base (some ⟨w.heap.size, 0, none⟩) (l.length + T) C (l ++ List.replicate T 0 ++ [])) := hide (by simpa using Hown.out)
  have hkk : T + ([] : List UInt8).length = T := by simp
  go_wp2_with (at_builtin; refine wpList_append_runU Hrun.out rfl _ _ rfl rfl rfl rfl ?_)
  clear hqz hqz2
  go_loopw [1, 15, 17] (fun t i x wr => ∃ (jj q k : Nat) (out : List UInt8), (0 < q ∨ 0 < jj) ∧ q ≤ m ∧ jj ≤ 60 ∧ k + out.length = T ∧ t = .int .i64 (q : Int) ∧ i = .int .i64 ((l.length : Int) + (k : Int) - 1) ∧ x = .int .i64 (jj : Int) ∧ Hid (OwnB wr base (some ⟨w.heap.size, 0, none⟩) (l.length + T) C (l ++ List.replicate k 0 ++ out)) ∧ Hid (IntsAt m 0 size jj q out) ∧ Hid (Below base w wr))
    (fun t _ _ _ => (intOf t).natAbs)
  case atStart => exact ⟨0, m, T, [], .inl hm0, by omega, by omega, hkk, by first | rfl | go_num, by first | rfl | go_num, rfl, Hown2, Hat3, hbel3⟩
  case round =>
    obtain ⟨jj, q, k, out, hqj, hq, hjj, hk, rfl, rfl, rfl, hown, hat, hbel⟩ := hrel
    by_cases hqp : 0 < q
    · have hroom := hat.out.room (.inl hqp)
      rw [HG.out, HT.out] at hroom
      have hst := hat.out.step (.inl hqp)
      have hjl := hst.1
      have hqz : ((q : Int) == 0) = false := by rw [beq_eq_false_iff_ne]; omega
      have hqz2 : ((-(q : Int)) == 0) = false := by rw [beq_eq_false_iff_ne]; omega
      by_cases hgr : 0 < jj ∧ jj % size = 0
      · rw [if_pos hgr] at hst hroom hjl
        obtain ⟨hj0, hjm⟩ := hgr
        obtain ⟨k', rfl⟩ : ∃ k', k = k' + 1 + 1 := ⟨k - 2, by omega⟩
        have hmod : ((jj : Int) % (size : Int) == 0) = true := by rw [beq_iff_eq]; exact_mod_cast hjm
        have cell1 := hown.out.cell (get_mid l (k' + 1) out)
        simp only [show ((0 : UInt8).toNat : Int) = 0 from rfl] at cell1
        have frz1 := hown.out.frozen (l.length + (k' + 1))
        have own2 := hown.out.set (l.length + (k' + 1)) 44
        rw [set_mid] at own2
        simp only [show ((44 : UInt8).toNat : Int) = 44 from rfl] at own2
        have cell2 := own2.cell (get_mid l k' (44 :: out))
        simp only [show ((0 : UInt8).toNat : Int) = 0 from rfl] at cell2
        have frz2 := own2.frozen (l.length + k')
        have own3 := own2.set (l.length + k') (dg q)
        rw [set_mid, dg_int, Int.add_comm] at own3
        have Hown3 := hide own3
        have Hbel3 := hide ((hbel.out.setCell (p := ⟨w.heap.size, l.length + (k' + 1), none⟩) hb (.int .u8 44)).setCell (p := ⟨w.heap.size, l.length + k', none⟩) hb (.int .u8 ((q : Int) % 10 + 48)))
        have Hst := hide hst
        have Hsl := hide (run_from Try.prog 22 Try.underlying22 (by kernel_rfl) w.heap.size (l.length + T) C (l.length + (k' + 1)))
        rw [show ((l.length : Int) + ((k' + 1 + 1 : Nat) : Int) - 1) = (l.length : Int) + (k' : Int) + 1 by omega]
        have hjl2 : jj + 1 ≤ 60 := by simp at hjl; omega
        have hk2 : k' + (dg q :: 44 :: out).length = T := by simp; omega
        clear own2 own3 hown hbel hst hat hjm hroom hqj hjl
        go_wp2_with (first
          | (go_at_call 11; ((with_reducible refine (runeLen_any _ _ (by decide) (by decide)).mono ?_); rintro e w1 ⟨rfl, rfl⟩))
          | (refine wpList_slice_runO (Hsl.out _ (by omega) (by omega) (by omega) _ _) _ _ _ rfl rfl rfl rfl rfl ?_)
          | (go_at_call 13; ((with_reducible refine (encRune_any _ _ _ _ _ _ _ (by decide) (by decide) (by omega) cell1 frz1).mono ?_); rintro e w1 ⟨rfl, rfl⟩)))
        go_roundw
        case rel => exact ⟨jj + 1, q / 10, k', _, .inr (by omega), by omega, hjl2, hk2, by go_num, by go_num, by go_num, Hown3, Hst, Hbel3⟩
        case measure => simp [intOf]; omega
      · rw [if_neg hgr] at hst hroom hjl
        obtain ⟨k', rfl⟩ : ∃ k', k = k' + 1 := ⟨k - 1, by omega⟩
        have cell2 := hown.out.cell (get_mid l k' out)
        simp only [show ((0 : UInt8).toNat : Int) = 0 from rfl] at cell2
        have frz2 := hown.out.frozen (l.length + k')
        have own3 := hown.out.set (l.length + k') (dg q)
        rw [set_mid, dg_int, Int.add_comm] at own3
        have Hown3 := hide own3
        have Hbel3 := hide (hbel.out.setCell (p := ⟨w.heap.size, l.length + k', none⟩) hb (.int .u8 ((q : Int) % 10 + 48)))
        have Hst := hide hst
        have hjl2 : jj + 1 ≤ 60 := by simp at hjl; omega
        have hk2 : k' + (dg q :: out).length = T := by simp; omega
        by_cases hj0 : 0 < jj
        · have hjm : ¬ jj % size = 0 := fun e => hgr ⟨hj0, e⟩
          have hmod : ((jj : Int) % (size : Int) == 0) = false := by rw [beq_eq_false_iff_ne]; exact_mod_cast hjm
          clear own3 hown hbel hst hat hgr hjm hroom hqj hjl
          go_wp2
          go_roundw
          case rel => exact ⟨jj + 1, q / 10, k', _, .inr (by omega), by omega, hjl2, hk2, by go_num, by go_num, by go_num, Hown3, Hst, Hbel3⟩
          case measure => simp [intOf]; omega
        · obtain rfl : jj = 0 := by omega
          clear own3 hown hbel hst hat hgr hroom hqj hjl
          go_wp2
          go_roundw
          case rel => exact ⟨1, q / 10, k', _, .inr (by omega), by omega, hjl2, hk2, by go_num, by go_num, by go_num, Hown3, Hst, Hbel3⟩
          case measure => simp [intOf]; omega
    · obtain rfl : q = 0 := by omega
      have hout := hat.out.done (by omega)
      rw [HG.out] at hout
      subst hout
      have hTl := HT.out
      obtain rfl : k = 0 := by omega
      clear hTl hat
      go_wp2
      go_ret
      have e1 : l ++ grouped false m 0 size = l ++ List.replicate 0 0 ++ out := by unfold grouped; rw [HG.out]; simp
      have e2 : (l ++ grouped false m 0 size).length = l.length + T := by rw [e1]; have := HT.out; simp; omega
      exact ⟨_, C, by rw [e2]; rfl, by rw [e2, e1]; exact hown.out, hbel.out⟩

set_option maxRecDepth 100000 in
set_option maxHeartbeats 4000000 in
theorem appNum_posIn (base g m size : Nat) (d : Nat) (hd6 : d ≤ 6) (l : List UInt8) (w : World) (own : OwnB w base (some ⟨g, 0, none⟩) l.length l.length l) (h1 : l.length ≤ 2147483647) (hb : base ≤ w.heap.size) (hm : m < 1000000000000000) (hs : 0 < size) (hs6 : size ≤ 6) (hd0 : 0 < d) (hdD : d < (dec m).length) :
    Calls Try.prog 9 #[.slice (some ⟨g, 0, none⟩) l.length l.length, .int .i64 (m : Int), .int .i64 (d : Int), .int .i64 (size : Int), .int .i32 44, .int .i32 46] w (OwnRetB base (l ++ grouped false m d size) w) := by
  obtain ⟨hD1, hD2⟩ := grouped_reckon m d size hs
  have hGle := groupedU_le m d size hs hm
  have hLp := dec_ne m
  have hL16 := dec_len_le 14 m (by simpa using hm)
  obtain ⟨G, hG⟩ : ∃ G, groupedU m d size = G := ⟨_, rfl⟩
  rw [hG] at hD1 hD2 hGle
  obtain ⟨D, hD⟩ : ∃ D, (dec m).length = D := ⟨_, rfl⟩
  rw [hD] at hD1 hD2 hLp hL16 hdD
  obtain ⟨T, hT⟩ : ∃ T, G.length = T := ⟨_, rfl⟩
  rw [hT] at hD1 hD2 hGle
  have HG := hide hG
  have HD := hide hD
  have HT := hide hT
  clear hG hD hT
  have hTe : (T : Int) = (D : Int) + ((D : Int) - (d : Int) - 1) / (size : Int) + 1 := by
    have e := hD1 hdD
    rw [if_neg (by omega)] at e
    have e2 : ((((D - d - 1) / size : Nat)) : Int) = ((D : Int) - (d : Int) - 1) / (size : Int) := by rw [Int.natCast_ediv]; congr 1; omega
    rw [← e2]; omega
  have hdv : 0 ≤ ((D : Int) - (d : Int) - 1) / (size : Int) := Int.ediv_nonneg (by omega) (by omega)
  clear hD1 hD2
  have hTp : 0 < T := by omega
  have hsz1 : ((size : Int) == 0) = false := by rw [beq_eq_false_iff_ne]; omega
  obtain ⟨C, w2, hrun, own2, hbel2⟩ := run_append_zeros8 (P := Try.prog) 22 3 22 Try.underlying22 Try.underlying3 u8_info own (T + 0) (by omega) (by omega) hb
  have hCle := own2.le.1
  have Hrun := hide hrun
  have Hown := hide own2
  have hbel3 := hide (hbel2.mono hb)
  have hmi : (m : Int) ≤ 9223372036854775807 := by omega
  have Hm := hide hm
  clear hrun own2 hbel2 hm
  go_enter Try.func9, Try.ntmps9
  go_upto_region 21 with (first
    | (go_at_call 11; ((with_reducible refine (runeLen_any _ _ (by decide) (by decide)).mono ?_); rintro e w1 ⟨rfl, rfl⟩))
    | (go_at_call 12; ((with_reducible refine (lenInt_pos m D _ HD.out Hm.out).mono ?_); rintro e w1 ⟨rfl, rfl⟩)))
  rw [← hTe]
  have HTe := hide hTe
  have hTd : d + 2 ≤ T := by have := hTe; omega
  clear hTe hdv
  have HbT : l.length + T ≤ 2147483747 := by omega
  go_wp2_with (at_builtin; refine wpList_append_runU Hrun.out rfl _ _ rfl rfl rfl rfl ?_)
  have Hat0 := hide (DecsAt.start m d)
  go_loopw [1, 2, 15] (fun t v i wr => ∃ (e j q k : Nat) (out : List UInt8), e + j = d ∧ q ≤ m ∧ j + k = T ∧ t = .int .i64 (q : Int) ∧ v = .int .i64 (e : Int) ∧ i = .int .i64 ((l.length : Int) + (k : Int) - 1) ∧ Hid (OwnB wr base (some ⟨w.heap.size, 0, none⟩) (l.length + T) C (l ++ List.replicate k 0 ++ out)) ∧ Hid (DecsAt m d j q out) ∧ Hid (Below base w wr))
    (fun _ v _ _ => (intOf v).toNat)
  case atStart => exact ⟨d, 0, m, T, [], rfl, Nat.le_refl _, by omega, rfl, rfl, by go_num, hide (by simpa using Hown.out), Hat0, hbel3⟩
  case round =>
    obtain ⟨e, j, q, k, out, hej, hq, hjk, rfl, rfl, rfl, hown, hat, hbel⟩ := hrel
    obtain ⟨k', rfl⟩ : ∃ k', k = k' + 1 := ⟨k - 1, by omega⟩
    have cell1 := hown.out.cell (get_mid l k' out)
    simp only [show ((0 : UInt8).toNat : Int) = 0 from rfl] at cell1
    have frz1 := hown.out.frozen (l.length + k')
    by_cases he : 0 < e
    · have hst := hown.out.set (l.length + k') (dg q)
      rw [set_mid, dg_int, Int.add_comm] at hst
      have Hst := hide hst
      have Hbel2 := hide (hbel.out.setCell (p := ⟨w.heap.size, l.length + k', none⟩) hb (.int .u8 ((q : Int) % 10 + 48)))
      have Hat2 := hide (hat.out.step (by omega))
      clear hst hown hbel hat
      go_wp2
      go_roundw
      case rel => exact ⟨e - 1, j + 1, q / 10, k', _, by omega, by omega, by omega, by go_num, by go_num, by go_num, Hst, Hat2, Hbel2⟩
      case measure => simp [intOf]; omega
    · obtain rfl : e = 0 := by omega
      obtain rfl : d = j := by omega
      rw [show ((l.length : Int) + ((k' + 1 : Nat) : Int) - 1) = (l.length : Int) + (k' : Int) by omega]
      have hst := hown.out.set (l.length + k') 46
      rw [set_mid] at hst
      simp only [show ((46 : UInt8).toNat : Int) = 46 from rfl] at hst
      have Hown2 := hide hst
      have Hbel2 := hide (hbel.out.setCell (p := ⟨w.heap.size, l.length + k', none⟩) hb (.int .u8 46))
      obtain ⟨hout, hqe⟩ := hat.out.done
      have Hfr : Hid (frac m d = 46 :: out) := hide (by unfold frac; rw [if_neg (by omega), hout])
      have hol : out.length = d := hat.out.2.1
      have Hq := hide hqe
      have Hsl := hide (run_from Try.prog 22 Try.underlying22 (by kernel_rfl) w.heap.size (l.length + T) C (l.length + k'))
      clear hst hown hbel hat hout hqe he
      by_cases hq0 : q = 0
      · subst hq0
        have hGe : 48 :: 46 :: out = G := by rw [← HG.out, ← Hfr.out]; unfold groupedU; rw [← Hq.out, show 0 / 10 = 0 from rfl, ints_zero]; rfl
        have hTl : T = d + 2 := by rw [← HT.out, ← hGe]; simp [hol]
        obtain rfl : k' = 1 := by omega
        have sm := set_mid l 0 (46 :: out) 48
        have gm := get_mid l 0 (46 :: out)
        simp only [Nat.add_zero, Nat.zero_add] at sm gm
        have hst := Hown2.out.set (l.length) 48
        rw [sm] at hst
        have cell2 := Hown2.out.cell gm
        simp only [show ((0 : UInt8).toNat : Int) = 0 from rfl] at cell2
        have frz2 := Hown2.out.frozen (l.length)
        clear sm gm
        simp only [show ((48 : UInt8).toNat : Int) = 48 from rfl] at hst
        have Hown3 := hide hst
        have Hbel3 := hide (Hbel2.out.setCell (p := ⟨w.heap.size, l.length, none⟩) hb (.int .u8 48))
        have HGe := hide hGe
        have HTl := hide hTl
        clear hst hGe hTl
        go_wp2_with (first
          | (go_at_call 11; ((with_reducible refine (runeLen_any _ _ (by decide) (by decide)).mono ?_); rintro e w1 ⟨rfl, rfl⟩))
          | (refine wpList_slice_runO (Hsl.out _ (by omega) (by omega) (by omega) _ _) _ _ _ rfl rfl rfl rfl rfl ?_)
          | (go_at_call 13; ((with_reducible refine (encRune_any _ _ _ _ _ _ _ (by decide) (by decide) (by omega) cell1 frz1).mono ?_); rintro e w1 ⟨rfl, rfl⟩)))
        go_ret
        have e1 : l ++ grouped false m d size = l ++ List.replicate 0 0 ++ 48 :: 46 :: out := by unfold grouped; rw [HG.out, ← HGe.out]; simp
        have e2 : (l ++ grouped false m d size).length = l.length + T := by rw [e1]; have := HTl.out; simp; omega
        exact ⟨_, C, by rw [e2]; rfl, by rw [e2, e1]; exact Hown3.out, Hbel3.out⟩
      · have hqp : 0 < q := by omega
        have hqz : ((q : Int) == 0) = false := by rw [beq_eq_false_iff_ne]; omega
        have hqz2 : ((-(q : Int)) == 0) = false := by rw [beq_eq_false_iff_ne]; omega
        have Hat3 : Hid (IntsAt m d size 0 q (46 :: out)) := hide (by rw [Hq.out, ← Hfr.out]; exact IntsAt.start m d size)
        have hkk : k' + (46 :: out).length = T := by simp; omega
        clear hq0
        go_wp2_with (first
          | (go_at_call 11; ((with_reducible refine (runeLen_any _ _ (by decide) (by decide)).mono ?_); rintro e w1 ⟨rfl, rfl⟩))
          | (refine wpList_slice_runO (Hsl.out _ (by omega) (by omega) (by omega) _ _) _ _ _ rfl rfl rfl rfl rfl ?_)
          | (go_at_call 13; ((with_reducible refine (encRune_any _ _ _ _ _ _ _ (by decide) (by decide) (by omega) cell1 frz1).mono ?_); rintro e w1 ⟨rfl, rfl⟩)))
        clear hqz hqz2 cell1 frz1
        go_loopw [1, 15, 17] (fun t i x wr => ∃ (jj q k : Nat) (out : List UInt8), (0 < q ∨ 0 < jj) ∧ q ≤ m ∧ jj ≤ 60 ∧ k + out.length = T ∧ t = .int .i64 (q : Int) ∧ i = .int .i64 ((l.length : Int) + (k : Int) - 1) ∧ x = .int .i64 (jj : Int) ∧ Hid (OwnB wr base (some ⟨w.heap.size, 0, none⟩) (l.length + T) C (l ++ List.replicate k 0 ++ out)) ∧ Hid (IntsAt m d size jj q out) ∧ Hid (Below base w wr))
          (fun t _ _ _ => (intOf t).natAbs)
        case atStart => exact ⟨0, q, k', (46 :: out), .inl hqp, by omega, by omega, hkk, by first | rfl | go_num, by first | rfl | go_num, rfl, Hown2, Hat3, Hbel2⟩
        case round =>
          obtain ⟨jj, q, k, out, hqj, hq, hjj, hk, rfl, rfl, rfl, hown, hat, hbel⟩ := hrel
          by_cases hqp : 0 < q
          · have hroom := hat.out.room (.inl hqp)
            rw [HG.out, HT.out] at hroom
            have hst := hat.out.step (.inl hqp)
            have hjl := hst.1
            have hqz : ((q : Int) == 0) = false := by rw [beq_eq_false_iff_ne]; omega
            have hqz2 : ((-(q : Int)) == 0) = false := by rw [beq_eq_false_iff_ne]; omega
            by_cases hgr : 0 < jj ∧ jj % size = 0
            · rw [if_pos hgr] at hst hroom hjl
              obtain ⟨hj0, hjm⟩ := hgr
              obtain ⟨k', rfl⟩ : ∃ k', k = k' + 1 + 1 := ⟨k - 2, by omega⟩
              have hmod : ((jj : Int) % (size : Int) == 0) = true := by rw [beq_iff_eq]; exact_mod_cast hjm
              have cell1 := hown.out.cell (get_mid l (k' + 1) out)
              simp only [show ((0 : UInt8).toNat : Int) = 0 from rfl] at cell1
              have frz1 := hown.out.frozen (l.length + (k' + 1))
              have own2 := hown.out.set (l.length + (k' + 1)) 44
              rw [set_mid] at own2
              simp only [show ((44 : UInt8).toNat : Int) = 44 from rfl] at own2
              have cell2 := own2.cell (get_mid l k' (44 :: out))
              simp only [show ((0 : UInt8).toNat : Int) = 0 from rfl] at cell2
              have frz2 := own2.frozen (l.length + k')
              have own3 := own2.set (l.length + k') (dg q)
              rw [set_mid, dg_int, Int.add_comm] at own3
              have Hown3 := hide own3
              have Hbel3 := hide ((hbel.out.setCell (p := ⟨w.heap.size, l.length + (k' + 1), none⟩) hb (.int .u8 44)).setCell (p := ⟨w.heap.size, l.length + k', none⟩) hb (.int .u8 ((q : Int) % 10 + 48)))
              have Hst := hide hst
              have Hsl := hide (run_from Try.prog 22 Try.underlying22 (by kernel_rfl) w.heap.size (l.length + T) C (l.length + (k' + 1)))
              rw [show ((l.length : Int) + ((k' + 1 + 1 : Nat) : Int) - 1) = (l.length : Int) + (k' : Int) + 1 by omega]
              have hjl2 : jj + 1 ≤ 60 := by simp at hjl; omega
              have hk2 : k' + (dg q :: 44 :: out).length = T := by simp; omega
              clear own2 own3 hown hbel hst hat hjm hroom hqj hjl
              go_wp2_with (first
                | (go_at_call 11; ((with_reducible refine (runeLen_any _ _ (by decide) (by decide)).mono ?_); rintro e w1 ⟨rfl, rfl⟩))
                | (refine wpList_slice_runO (Hsl.out _ (by omega) (by omega) (by omega) _ _) _ _ _ rfl rfl rfl rfl rfl ?_)
                | (go_at_call 13; ((with_reducible refine (encRune_any _ _ _ _ _ _ _ (by decide) (by decide) (by omega) cell1 frz1).mono ?_); rintro e w1 ⟨rfl, rfl⟩)))
              go_roundw
              case rel => exact ⟨jj + 1, q / 10, k', _, .inr (by omega), by omega, hjl2, hk2, by go_num, by go_num, by go_num, Hown3, Hst, Hbel3⟩
              case measure => simp [intOf]; omega
            · rw [if_neg hgr] at hst hroom hjl
              obtain ⟨k', rfl⟩ : ∃ k', k = k' + 1 := ⟨k - 1, by omega⟩
              have cell2 := hown.out.cell (get_mid l k' out)
              simp only [show ((0 : UInt8).toNat : Int) = 0 from rfl] at cell2
              have frz2 := hown.out.frozen (l.length + k')
              have own3 := hown.out.set (l.length + k') (dg q)
              rw [set_mid, dg_int, Int.add_comm] at own3
              have Hown3 := hide own3
              have Hbel3 := hide (hbel.out.setCell (p := ⟨w.heap.size, l.length + k', none⟩) hb (.int .u8 ((q : Int) % 10 + 48)))
              have Hst := hide hst
              have hjl2 : jj + 1 ≤ 60 := by simp at hjl; omega
              have hk2 : k' + (dg q :: out).length = T := by simp; omega
              by_cases hj0 : 0 < jj
              · have hjm : ¬ jj % size = 0 := fun e => hgr ⟨hj0, e⟩
                have hmod : ((jj : Int) % (size : Int) == 0) = false := by rw [beq_eq_false_iff_ne]; exact_mod_cast hjm
                clear own3 hown hbel hst hat hgr hjm hroom hqj hjl
                go_wp2
                go_roundw
                case rel => exact ⟨jj + 1, q / 10, k', _, .inr (by omega), by omega, hjl2, hk2, by go_num, by go_num, by go_num, Hown3, Hst, Hbel3⟩
                case measure => simp [intOf]; omega
              · obtain rfl : jj = 0 := by omega
                clear own3 hown hbel hst hat hgr hroom hqj hjl
                go_wp2
                go_roundw
                case rel => exact ⟨1, q / 10, k', _, .inr (by omega), by omega, hjl2, hk2, by go_num, by go_num, by go_num, Hown3, Hst, Hbel3⟩
                case measure => simp [intOf]; omega
          · obtain rfl : q = 0 := by omega
            have hout := hat.out.done (by omega)
            rw [HG.out] at hout
            subst hout
            have hTl := HT.out
            obtain rfl : k = 0 := by omega
            clear hTl hat
            go_wp2
            go_ret
            have e1 : l ++ grouped false m d size = l ++ List.replicate 0 0 ++ out := by unfold grouped; rw [HG.out]; simp
            have e2 : (l ++ grouped false m d size).length = l.length + T := by rw [e1]; have := HT.out; simp; omega
            exact ⟨_, C, by rw [e2]; rfl, by rw [e2, e1]; exact hown.out, hbel.out⟩

set_option maxRecDepth 100000 in
set_option maxHeartbeats 4000000 in
theorem appNum_posOut (base g m size : Nat) (d : Nat) (hd6 : d ≤ 6) (l : List UInt8) (w : World) (own : OwnB w base (some ⟨g, 0, none⟩) l.length l.length l) (h1 : l.length ≤ 2147483647) (hb : base ≤ w.heap.size) (hm : m < 1000000000000000) (hs : 0 < size) (hs6 : size ≤ 6) (hd0 : 0 < d) (hdD : ¬ d < (dec m).length) :
    Calls Try.prog 9 #[.slice (some ⟨g, 0, none⟩) l.length l.length, .int .i64 (m : Int), .int .i64 (d : Int), .int .i64 (size : Int), .int .i32 44, .int .i32 46] w (OwnRetB base (l ++ grouped false m d size) w) := by
  obtain ⟨hD1, hD2⟩ := grouped_reckon m d size hs
  have hGle := groupedU_le m d size hs hm
  have hLp := dec_ne m
  have hL16 := dec_len_le 14 m (by simpa using hm)
  obtain ⟨G, hG⟩ : ∃ G, groupedU m d size = G := ⟨_, rfl⟩
  rw [hG] at hD1 hD2 hGle
  obtain ⟨D, hD⟩ : ∃ D, (dec m).length = D := ⟨_, rfl⟩
  rw [hD] at hD1 hD2 hLp hL16 hdD
  obtain ⟨T, hT⟩ : ∃ T, G.length = T := ⟨_, rfl⟩
  rw [hT] at hD1 hD2 hGle
  have HG := hide hG
  have HD := hide hD
  have HT := hide hT
  clear hG hD hT
  have hTe : T = d + 2 := by have := hD2 hdD; omega
  have hTd : d + 2 ≤ T := by omega
  have HTe := hide hTe
  clear hTe
  clear hD1 hD2
  have hTp : 0 < T := by omega
  have hsz1 : ((size : Int) == 0) = false := by rw [beq_eq_false_iff_ne]; omega
  obtain ⟨C, w2, hrun, own2, hbel2⟩ := run_append_zeros8 (P := Try.prog) 22 3 22 Try.underlying22 Try.underlying3 u8_info own (T + 0) (by omega) (by omega) hb
  have hCle := own2.le.1
  have Hrun := hide hrun
  have Hown := hide own2
  have hbel3 := hide (hbel2.mono hb)
  have hmi : (m : Int) ≤ 9223372036854775807 := by omega
  have Hm := hide hm
  clear hrun own2 hbel2 hm
  go_enter Try.func9, Try.ntmps9
  go_upto_region 21 with (first
    | (go_at_call 11; ((with_reducible refine (runeLen_any _ _ (by decide) (by decide)).mono ?_); rintro e w1 ⟨rfl, rfl⟩))
    | (go_at_call 12; ((with_reducible refine (lenInt_pos m D _ HD.out Hm.out).mono ?_); rintro e w1 ⟨rfl, rfl⟩)))
  rw [show (1 + (d : Int) + 1) = (T : Int) by have := HTe.out; omega]
  skip
  have HbT : l.length + T ≤ 2147483747 := by omega
  go_wp2_with (at_builtin; refine wpList_append_runU Hrun.out rfl _ _ rfl rfl rfl rfl ?_)
  have Hat0 := hide (DecsAt.start m d)
  go_loopw [1, 2, 15] (fun t v i wr => ∃ (e j q k : Nat) (out : List UInt8), e + j = d ∧ q ≤ m ∧ j + k = T ∧ t = .int .i64 (q : Int) ∧ v = .int .i64 (e : Int) ∧ i = .int .i64 ((l.length : Int) + (k : Int) - 1) ∧ Hid (OwnB wr base (some ⟨w.heap.size, 0, none⟩) (l.length + T) C (l ++ List.replicate k 0 ++ out)) ∧ Hid (DecsAt m d j q out) ∧ Hid (Below base w wr))
    (fun _ v _ _ => (intOf v).toNat)
  case atStart => exact ⟨d, 0, m, T, [], rfl, Nat.le_refl _, by omega, rfl, rfl, by go_num, hide (by simpa using Hown.out), Hat0, hbel3⟩
  case round =>
    obtain ⟨e, j, q, k, out, hej, hq, hjk, rfl, rfl, rfl, hown, hat, hbel⟩ := hrel
    obtain ⟨k', rfl⟩ : ∃ k', k = k' + 1 := ⟨k - 1, by omega⟩
    have cell1 := hown.out.cell (get_mid l k' out)
    simp only [show ((0 : UInt8).toNat : Int) = 0 from rfl] at cell1
    have frz1 := hown.out.frozen (l.length + k')
    by_cases he : 0 < e
    · have hst := hown.out.set (l.length + k') (dg q)
      rw [set_mid, dg_int, Int.add_comm] at hst
      have Hst := hide hst
      have Hbel2 := hide (hbel.out.setCell (p := ⟨w.heap.size, l.length + k', none⟩) hb (.int .u8 ((q : Int) % 10 + 48)))
      have Hat2 := hide (hat.out.step (by omega))
      clear hst hown hbel hat
      go_wp2
      go_roundw
      case rel => exact ⟨e - 1, j + 1, q / 10, k', _, by omega, by omega, by omega, by go_num, by go_num, by go_num, Hst, Hat2, Hbel2⟩
      case measure => simp [intOf]; omega
    · obtain rfl : e = 0 := by omega
      obtain rfl : d = j := by omega
      rw [show ((l.length : Int) + ((k' + 1 : Nat) : Int) - 1) = (l.length : Int) + (k' : Int) by omega]
      have hst := hown.out.set (l.length + k') 46
      rw [set_mid] at hst
      simp only [show ((46 : UInt8).toNat : Int) = 46 from rfl] at hst
      have Hown2 := hide hst
      have Hbel2 := hide (hbel.out.setCell (p := ⟨w.heap.size, l.length + k', none⟩) hb (.int .u8 46))
      obtain ⟨hout, hqe⟩ := hat.out.done
      have Hfr : Hid (frac m d = 46 :: out) := hide (by unfold frac; rw [if_neg (by omega), hout])
      have hol : out.length = d := hat.out.2.1
      have Hq := hide hqe
      have Hsl := hide (run_from Try.prog 22 Try.underlying22 (by kernel_rfl) w.heap.size (l.length + T) C (l.length + k'))
      clear hst hown hbel hat hout hqe he
      by_cases hq0 : q = 0
      · subst hq0
        have hGe : 48 :: 46 :: out = G := by rw [← HG.out, ← Hfr.out]; unfold groupedU; rw [← Hq.out, show 0 / 10 = 0 from rfl, ints_zero]; rfl
        have hTl : T = d + 2 := by rw [← HT.out, ← hGe]; simp [hol]
        obtain rfl : k' = 1 := by omega
        have sm := set_mid l 0 (46 :: out) 48
        have gm := get_mid l 0 (46 :: out)
        simp only [Nat.add_zero, Nat.zero_add] at sm gm
        have hst := Hown2.out.set (l.length) 48
        rw [sm] at hst
        have cell2 := Hown2.out.cell gm
        simp only [show ((0 : UInt8).toNat : Int) = 0 from rfl] at cell2
        have frz2 := Hown2.out.frozen (l.length)
        clear sm gm
        simp only [show ((48 : UInt8).toNat : Int) = 48 from rfl] at hst
        have Hown3 := hide hst
        have Hbel3 := hide (Hbel2.out.setCell (p := ⟨w.heap.size, l.length, none⟩) hb (.int .u8 48))
        have HGe := hide hGe
        have HTl := hide hTl
        clear hst hGe hTl
        go_wp2_with (first
          | (go_at_call 11; ((with_reducible refine (runeLen_any _ _ (by decide) (by decide)).mono ?_); rintro e w1 ⟨rfl, rfl⟩))
          | (refine wpList_slice_runO (Hsl.out _ (by omega) (by omega) (by omega) _ _) _ _ _ rfl rfl rfl rfl rfl ?_)
          | (go_at_call 13; ((with_reducible refine (encRune_any _ _ _ _ _ _ _ (by decide) (by decide) (by omega) cell1 frz1).mono ?_); rintro e w1 ⟨rfl, rfl⟩)))
        go_ret
        have e1 : l ++ grouped false m d size = l ++ List.replicate 0 0 ++ 48 :: 46 :: out := by unfold grouped; rw [HG.out, ← HGe.out]; simp
        have e2 : (l ++ grouped false m d size).length = l.length + T := by rw [e1]; have := HTl.out; simp; omega
        exact ⟨_, C, by rw [e2]; rfl, by rw [e2, e1]; exact Hown3.out, Hbel3.out⟩
      · have hqp : 0 < q := by omega
        have hqz : ((q : Int) == 0) = false := by rw [beq_eq_false_iff_ne]; omega
        have hqz2 : ((-(q : Int)) == 0) = false := by rw [beq_eq_false_iff_ne]; omega
        have Hat3 : Hid (IntsAt m d size 0 q (46 :: out)) := hide (by rw [Hq.out, ← Hfr.out]; exact IntsAt.start m d size)
        have hkk : k' + (46 :: out).length = T := by simp; omega
        clear hq0
        go_wp2_with (first
          | (go_at_call 11; ((with_reducible refine (runeLen_any _ _ (by decide) (by decide)).mono ?_); rintro e w1 ⟨rfl, rfl⟩))
          | (refine wpList_slice_runO (Hsl.out _ (by omega) (by omega) (by omega) _ _) _ _ _ rfl rfl rfl rfl rfl ?_)
          | (go_at_call 13; ((with_reducible refine (encRune_any _ _ _ _ _ _ _ (by decide) (by decide) (by omega) cell1 frz1).mono ?_); rintro e w1 ⟨rfl, rfl⟩)))
        clear hqz hqz2 cell1 frz1
        go_loopw [1, 15, 17] (fun t i x wr => ∃ (jj q k : Nat) (out : List UInt8), (0 < q ∨ 0 < jj) ∧ q ≤ m ∧ jj ≤ 60 ∧ k + out.length = T ∧ t = .int .i64 (q : Int) ∧ i = .int .i64 ((l.length : Int) + (k : Int) - 1) ∧ x = .int .i64 (jj : Int) ∧ Hid (OwnB wr base (some ⟨w.heap.size, 0, none⟩) (l.length + T) C (l ++ List.replicate k 0 ++ out)) ∧ Hid (IntsAt m d size jj q out) ∧ Hid (Below base w wr))
          (fun t _ _ _ => (intOf t).natAbs)
        case atStart => exact ⟨0, q, k', (46 :: out), .inl hqp, by omega, by omega, hkk, by first | rfl | go_num, by first | rfl | go_num, rfl, Hown2, Hat3, Hbel2⟩
        case round =>
          obtain ⟨jj, q, k, out, hqj, hq, hjj, hk, rfl, rfl, rfl, hown, hat, hbel⟩ := hrel
          by_cases hqp : 0 < q
          · have hroom := hat.out.room (.inl hqp)
            rw [HG.out, HT.out] at hroom
            have hst := hat.out.step (.inl hqp)
            have hjl := hst.1
            have hqz : ((q : Int) == 0) = false := by rw [beq_eq_false_iff_ne]; omega
            have hqz2 : ((-(q : Int)) == 0) = false := by rw [beq_eq_false_iff_ne]; omega
            by_cases hgr : 0 < jj ∧ jj % size = 0
            · rw [if_pos hgr] at hst hroom hjl
              obtain ⟨hj0, hjm⟩ := hgr
              obtain ⟨k', rfl⟩ : ∃ k', k = k' + 1 + 1 := ⟨k - 2, by omega⟩
              have hmod : ((jj : Int) % (size : Int) == 0) = true := by rw [beq_iff_eq]; exact_mod_cast hjm
              have cell1 := hown.out.cell (get_mid l (k' + 1) out)
              simp only [show ((0 : UInt8).toNat : Int) = 0 from rfl] at cell1
              have frz1 := hown.out.frozen (l.length + (k' + 1))
              have own2 := hown.out.set (l.length + (k' + 1)) 44
              rw [set_mid] at own2
              simp only [show ((44 : UInt8).toNat : Int) = 44 from rfl] at own2
              have cell2 := own2.cell (get_mid l k' (44 :: out))
              simp only [show ((0 : UInt8).toNat : Int) = 0 from rfl] at cell2
              have frz2 := own2.frozen (l.length + k')
              have own3 := own2.set (l.length + k') (dg q)
              rw [set_mid, dg_int, Int.add_comm] at own3
              have Hown3 := hide own3
              have Hbel3 := hide ((hbel.out.setCell (p := ⟨w.heap.size, l.length + (k' + 1), none⟩) hb (.int .u8 44)).setCell (p := ⟨w.heap.size, l.length + k', none⟩) hb (.int .u8 ((q : Int) % 10 + 48)))
              have Hst := hide hst
              have Hsl := hide (run_from Try.prog 22 Try.underlying22 (by kernel_rfl) w.heap.size (l.length + T) C (l.length + (k' + 1)))
              rw [show ((l.length : Int) + ((k' + 1 + 1 : Nat) : Int) - 1) = (l.length : Int) + (k' : Int) + 1 by omega]
              have hjl2 : jj + 1 ≤ 60 := by simp at hjl; omega
              have hk2 : k' + (dg q :: 44 :: out).length = T := by simp; omega
              clear own2 own3 hown hbel hst hat hjm hroom hqj hjl
              go_wp2_with (first
                | (go_at_call 11; ((with_reducible refine (runeLen_any _ _ (by decide) (by decide)).mono ?_); rintro e w1 ⟨rfl, rfl⟩))
                | (refine wpList_slice_runO (Hsl.out _ (by omega) (by omega) (by omega) _ _) _ _ _ rfl rfl rfl rfl rfl ?_)
                | (go_at_call 13; ((with_reducible refine (encRune_any _ _ _ _ _ _ _ (by decide) (by decide) (by omega) cell1 frz1).mono ?_); rintro e w1 ⟨rfl, rfl⟩)))
              go_roundw
              case rel => exact ⟨jj + 1, q / 10, k', _, .inr (by omega), by omega, hjl2, hk2, by go_num, by go_num, by go_num, Hown3, Hst, Hbel3⟩
              case measure => simp [intOf]; omega
            · rw [if_neg hgr] at hst hroom hjl
              obtain ⟨k', rfl⟩ : ∃ k', k = k' + 1 := ⟨k - 1, by omega⟩
              have cell2 := hown.out.cell (get_mid l k' out)
              simp only [show ((0 : UInt8).toNat : Int) = 0 from rfl] at cell2
              have frz2 := hown.out.frozen (l.length + k')
              have own3 := hown.out.set (l.length + k') (dg q)
              rw [set_mid, dg_int, Int.add_comm] at own3
              have Hown3 := hide own3
              have Hbel3 := hide (hbel.out.setCell (p := ⟨w.heap.size, l.length + k', none⟩) hb (.int .u8 ((q : Int) % 10 + 48)))
              have Hst := hide hst
              have hjl2 : jj + 1 ≤ 60 := by simp at hjl; omega
              have hk2 : k' + (dg q :: out).length = T := by simp; omega
              by_cases hj0 : 0 < jj
              · have hjm : ¬ jj % size = 0 := fun e => hgr ⟨hj0, e⟩
                have hmod : ((jj : Int) % (size : Int) == 0) = false := by rw [beq_eq_false_iff_ne]; exact_mod_cast hjm
                clear own3 hown hbel hst hat hgr hjm hroom hqj hjl
                go_wp2
                go_roundw
                case rel => exact ⟨jj + 1, q / 10, k', _, .inr (by omega), by omega, hjl2, hk2, by go_num, by go_num, by go_num, Hown3, Hst, Hbel3⟩
                case measure => simp [intOf]; omega
              · obtain rfl : jj = 0 := by omega
                clear own3 hown hbel hst hat hgr hroom hqj hjl
                go_wp2
                go_roundw
                case rel => exact ⟨1, q / 10, k', _, .inr (by omega), by omega, hjl2, hk2, by go_num, by go_num, by go_num, Hown3, Hst, Hbel3⟩
                case measure => simp [intOf]; omega
          · obtain rfl : q = 0 := by omega
            have hout := hat.out.done (by omega)
            rw [HG.out] at hout
            subst hout
            have hTl := HT.out
            obtain rfl : k = 0 := by omega
            clear hTl hat
            go_wp2
            go_ret
            have e1 : l ++ grouped false m d size = l ++ List.replicate 0 0 ++ out := by unfold grouped; rw [HG.out]; simp
            have e2 : (l ++ grouped false m d size).length = l.length + T := by rw [e1]; have := HT.out; simp; omega
            exact ⟨_, C, by rw [e2]; rfl, by rw [e2, e1]; exact hown.out, hbel.out⟩

set_option maxRecDepth 100000 in
set_option maxHeartbeats 4000000 in
theorem appNum_neg0 (base g m size : Nat) (l : List UInt8) (w : World) (own : OwnB w base (some ⟨g, 0, none⟩) l.length l.length l) (h1 : l.length ≤ 2147483647) (hb : base ≤ w.heap.size) (hm : m < 1000000000000000) (hs : 0 < size) (hs6 : size ≤ 6) (hm0 : 0 < m) :
    Calls Try.prog 9 #[.slice (some ⟨g, 0, none⟩) l.length l.length, .int .i64 (-(m : Int)), .int .i64 0, .int .i64 (size : Int), .int .i32 44, .int .i32 46] w (OwnRetB base (l ++ grouped true m 0 size) w) := by
  obtain ⟨hD1, hD2⟩ := grouped_reckon m 0 size hs
  have hGle := groupedU_le m 0 size hs hm
  have hLp := dec_ne m
  have hL16 := dec_len_le 14 m (by simpa using hm)
  obtain ⟨G, hG⟩ : ∃ G, groupedU m 0 size = G := ⟨_, rfl⟩
  rw [hG] at hD1 hD2 hGle
  obtain ⟨D, hD⟩ : ∃ D, (dec m).length = D := ⟨_, rfl⟩
  rw [hD] at hD1 hD2 hLp hL16
  obtain ⟨T, hT⟩ : ∃ T, G.length = T := ⟨_, rfl⟩
  rw [hT] at hD1 hD2 hGle
  have HG := hide hG
  have HD := hide hD
  have HT := hide hT
  clear hG hD hT
  have hTe : (T : Int) = (D : Int) + ((D : Int) - 1) / (size : Int) := by
    have e := hD1 hLp
    rw [if_pos rfl] at e
    have e2 : ((((D - 0 - 1) / size : Nat)) : Int) = ((D : Int) - 1) / (size : Int) := by rw [Int.natCast_ediv]; congr 1; omega
    rw [← e2]; omega
  have hdv : 0 ≤ ((D : Int) - 1) / (size : Int) := Int.ediv_nonneg (by omega) (by omega)
  clear hD1 hD2
  have hTp : 0 < T := by omega
  have hsz1 : ((size : Int) == 0) = false := by rw [beq_eq_false_iff_ne]; omega
  obtain ⟨C, w2, hrun, own2, hbel2⟩ := run_append_zeros8 (P := Try.prog) 22 3 22 Try.underlying22 Try.underlying3 u8_info own (T + 1) (by omega) (by omega) hb
  have hCle := own2.le.1
  have Hrun := hide hrun
  have Hown := hide own2
  have hbel3 := hide (hbel2.mono hb)
  have hmi : (m : Int) ≤ 9223372036854775807 := by omega
  have Hm := hide hm
  clear hrun own2 hbel2 hm
  go_enter Try.func9, Try.ntmps9
  go_upto_region 21 with (first
    | (go_at_call 11; ((with_reducible refine (runeLen_any _ _ (by decide) (by decide)).mono ?_); rintro e w1 ⟨rfl, rfl⟩))
    | (go_at_call 12; ((with_reducible refine (lenInt_neg m D _ HD.out Hm.out hm0).mono ?_); rintro e w1 ⟨rfl, rfl⟩)))
  rw [← hTe]
  have HTe := hide hTe
  clear hTe hdv
  have HbT : l.length + (T + 1) ≤ 2147483747 := by omega
  have hqz : ((m : Int) == 0) = false := by rw [beq_eq_false_iff_ne]; omega
  have hqz2 : ((-(m : Int)) == 0) = false := by rw [beq_eq_false_iff_ne]; omega
  have Hat3 : Hid (IntsAt m 0 size 0 m []) := hide (by have := IntsAt.start m 0 size; rw [Nat.pow_zero, Nat.div_one] at this; exact this)
  have Hown2 : Hid (OwnB w2 base (some ⟨w.heap.size, 0, none⟩) (l.length + (T + 1)) C (l ++ List.replicate (T + 1) 0 ++ [])) := hide (by simpa using Hown.out)
  have hkk : (T + 1) + ([] : List UInt8).length = (T + 1) := by simp
  go_wp2_with (at_builtin; refine wpList_append_runU Hrun.out rfl _ _ rfl rfl rfl rfl ?_)
  clear hqz hqz2
  go_loopw [1, 15, 17] (fun t i x wr => ∃ (jj q k : Nat) (out : List UInt8), (0 < q ∨ 0 < jj) ∧ q ≤ m ∧ jj ≤ 60 ∧ k + out.length = (T + 1) ∧ t = .int .i64 (-(q : Int)) ∧ i = .int .i64 ((l.length : Int) + (k : Int) - 1) ∧ x = .int .i64 (jj : Int) ∧ Hid (OwnB wr base (some ⟨w.heap.size, 0, none⟩) (l.length + (T + 1)) C (l ++ List.replicate k 0 ++ out)) ∧ Hid (IntsAt m 0 size jj q out) ∧ Hid (Below base w wr))
    (fun t _ _ _ => (intOf t).natAbs)
  case atStart => exact ⟨0, m, (T + 1), [], .inl hm0, by omega, by omega, hkk, by first | rfl | go_num, by first | rfl | go_num, rfl, Hown2, Hat3, hbel3⟩
  case round =>
    obtain ⟨jj, q, k, out, hqj, hq, hjj, hk, rfl, rfl, rfl, hown, hat, hbel⟩ := hrel
    by_cases hqp : 0 < q
    · have hroom := hat.out.room (.inl hqp)
      rw [HG.out, HT.out] at hroom
      have hst := hat.out.step (.inl hqp)
      have hjl := hst.1
      have hqz : ((q : Int) == 0) = false := by rw [beq_eq_false_iff_ne]; omega
      have hqz2 : ((-(q : Int)) == 0) = false := by rw [beq_eq_false_iff_ne]; omega
      by_cases hgr : 0 < jj ∧ jj % size = 0
      · rw [if_pos hgr] at hst hroom hjl
        obtain ⟨hj0, hjm⟩ := hgr
        obtain ⟨k', rfl⟩ : ∃ k', k = k' + 1 + 1 := ⟨k - 2, by omega⟩
        have hmod : ((jj : Int) % (size : Int) == 0) = true := by rw [beq_iff_eq]; exact_mod_cast hjm
        have cell1 := hown.out.cell (get_mid l (k' + 1) out)
        simp only [show ((0 : UInt8).toNat : Int) = 0 from rfl] at cell1
        have frz1 := hown.out.frozen (l.length + (k' + 1))
        have own2 := hown.out.set (l.length + (k' + 1)) 44
        rw [set_mid] at own2
        simp only [show ((44 : UInt8).toNat : Int) = 44 from rfl] at own2
        have cell2 := own2.cell (get_mid l k' (44 :: out))
        simp only [show ((0 : UInt8).toNat : Int) = 0 from rfl] at cell2
        have frz2 := own2.frozen (l.length + k')
        have own3 := own2.set (l.length + k') (dg q)
        rw [set_mid, dg_int, Int.add_comm] at own3
        have Hown3 := hide own3
        have Hbel3 := hide ((hbel.out.setCell (p := ⟨w.heap.size, l.length + (k' + 1), none⟩) hb (.int .u8 44)).setCell (p := ⟨w.heap.size, l.length + k', none⟩) hb (.int .u8 ((q : Int) % 10 + 48)))
        have Hst := hide hst
        have Hsl := hide (run_from Try.prog 22 Try.underlying22 (by kernel_rfl) w.heap.size (l.length + (T + 1)) C (l.length + (k' + 1)))
        rw [show ((l.length : Int) + ((k' + 1 + 1 : Nat) : Int) - 1) = (l.length : Int) + (k' : Int) + 1 by omega]
        have hjl2 : jj + 1 ≤ 60 := by simp at hjl; omega
        have hk2 : k' + (dg q :: 44 :: out).length = (T + 1) := by simp; omega
        clear own2 own3 hown hbel hst hat hjm hroom hqj hjl
        go_wp2_with (first
          | (go_at_call 11; ((with_reducible refine (runeLen_any _ _ (by decide) (by decide)).mono ?_); rintro e w1 ⟨rfl, rfl⟩))
          | (refine wpList_slice_runO (Hsl.out _ (by omega) (by omega) (by omega) _ _) _ _ _ rfl rfl rfl rfl rfl ?_)
          | (go_at_call 13; ((with_reducible refine (encRune_any _ _ _ _ _ _ _ (by decide) (by decide) (by omega) cell1 frz1).mono ?_); rintro e w1 ⟨rfl, rfl⟩)))
        go_roundw
        case rel => exact ⟨jj + 1, q / 10, k', _, .inr (by omega), by omega, hjl2, hk2, by go_num, by go_num, by go_num, Hown3, Hst, Hbel3⟩
        case measure => simp [intOf]; omega
      · rw [if_neg hgr] at hst hroom hjl
        obtain ⟨k', rfl⟩ : ∃ k', k = k' + 1 := ⟨k - 1, by omega⟩
        have cell2 := hown.out.cell (get_mid l k' out)
        simp only [show ((0 : UInt8).toNat : Int) = 0 from rfl] at cell2
        have frz2 := hown.out.frozen (l.length + k')
        have own3 := hown.out.set (l.length + k') (dg q)
        rw [set_mid, dg_int, Int.add_comm] at own3
        have Hown3 := hide own3
        have Hbel3 := hide (hbel.out.setCell (p := ⟨w.heap.size, l.length + k', none⟩) hb (.int .u8 ((q : Int) % 10 + 48)))
        have Hst := hide hst
        have hjl2 : jj + 1 ≤ 60 := by simp at hjl; omega
        have hk2 : k' + (dg q :: out).length = (T + 1) := by simp; omega
        by_cases hj0 : 0 < jj
        · have hjm : ¬ jj % size = 0 := fun e => hgr ⟨hj0, e⟩
          have hmod : ((jj : Int) % (size : Int) == 0) = false := by rw [beq_eq_false_iff_ne]; exact_mod_cast hjm
          clear own3 hown hbel hst hat hgr hjm hroom hqj hjl
          go_wp2
          go_roundw
          case rel => exact ⟨jj + 1, q / 10, k', _, .inr (by omega), by omega, hjl2, hk2, by go_num, by go_num, by go_num, Hown3, Hst, Hbel3⟩
          case measure => simp [intOf]; omega
        · obtain rfl : jj = 0 := by omega
          clear own3 hown hbel hst hat hgr hroom hqj hjl
          go_wp2
          go_roundw
          case rel => exact ⟨1, q / 10, k', _, .inr (by omega), by omega, hjl2, hk2, by go_num, by go_num, by go_num, Hown3, Hst, Hbel3⟩
          case measure => simp [intOf]; omega
    · obtain rfl : q = 0 := by omega
      have hout := hat.out.done (by omega)
      rw [HG.out] at hout
      subst hout
      have hTl := HT.out
      obtain rfl : k = 0 + 1 := by omega
      have cell2 := hown.out.cell (get_mid l 0 out)
      simp only [show ((0 : UInt8).toNat : Int) = 0 from rfl] at cell2
      have frz2 := hown.out.frozen (l.length + 0)
      have own3 := hown.out.set (l.length + 0) 45
      rw [set_mid] at own3
      simp only [show ((45 : UInt8).toNat : Int) = 45 from rfl] at own3
      simp only [Nat.add_zero] at cell2 frz2 own3
      have Hown3 := hide own3
      have Hbel3 := hide (hbel.out.setCell (p := ⟨w.heap.size, l.length, none⟩) hb (.int .u8 45))
      clear own3 hown hbel
      clear hTl hat
      go_wp2
      go_ret
      have e1 : l ++ grouped true m 0 size = l ++ List.replicate 0 0 ++ 45 :: out := by unfold grouped; rw [HG.out]; simp
      have e2 : (l ++ grouped true m 0 size).length = l.length + (T + 1) := by rw [e1]; have := HT.out; simp; omega
      exact ⟨_, C, by rw [e2]; rfl, by rw [e2, e1]; exact Hown3.out, Hbel3.out⟩

set_option maxRecDepth 100000 in
set_option maxHeartbeats 4000000 in
theorem appNum_negIn (base g m size : Nat) (d : Nat) (hd6 : d ≤ 6) (l : List UInt8) (w : World) (own : OwnB w base (some ⟨g, 0, none⟩) l.length l.length l) (h1 : l.length ≤ 2147483647) (hb : base ≤ w.heap.size) (hm : m < 1000000000000000) (hs : 0 < size) (hs6 : size ≤ 6) (hd0 : 0 < d) (hdD : d < (dec m).length) (hm0 : 0 < m) :
    Calls Try.prog 9 #[.slice (some ⟨g, 0, none⟩) l.length l.length, .int .i64 (-(m : Int)), .int .i64 (d : Int), .int .i64 (size : Int), .int .i32 44, .int .i32 46] w (OwnRetB base (l ++ grouped true m d size) w) := by
  obtain ⟨hD1, hD2⟩ := grouped_reckon m d size hs
  have hGle := groupedU_le m d size hs hm
  have hLp := dec_ne m
  have hL16 := dec_len_le 14 m (by simpa using hm)
  obtain ⟨G, hG⟩ : ∃ G, groupedU m d size = G := ⟨_, rfl⟩
  rw [hG] at hD1 hD2 hGle
  obtain ⟨D, hD⟩ : ∃ D, (dec m).length = D := ⟨_, rfl⟩
  rw [hD] at hD1 hD2 hLp hL16 hdD
  obtain ⟨T, hT⟩ : ∃ T, G.length = T := ⟨_, rfl⟩
  rw [hT] at hD1 hD2 hGle
  have HG := hide hG
  have HD := hide hD
  have HT := hide hT
  clear hG hD hT
  have hTe : (T : Int) = (D : Int) + ((D : Int) - (d : Int) - 1) / (size : Int) + 1 := by
    have e := hD1 hdD
    rw [if_neg (by omega)] at e
    have e2 : ((((D - d - 1) / size : Nat)) : Int) = ((D : Int) - (d : Int) - 1) / (size : Int) := by rw [Int.natCast_ediv]; congr 1; omega
    rw [← e2]; omega
  have hdv : 0 ≤ ((D : Int) - (d : Int) - 1) / (size : Int) := Int.ediv_nonneg (by omega) (by omega)
  clear hD1 hD2
  have hTp : 0 < T := by omega
  have hsz1 : ((size : Int) == 0) = false := by rw [beq_eq_false_iff_ne]; omega
  obtain ⟨C, w2, hrun, own2, hbel2⟩ := run_append_zeros8 (P := Try.prog) 22 3 22 Try.underlying22 Try.underlying3 u8_info own (T + 1) (by omega) (by omega) hb
  have hCle := own2.le.1
  have Hrun := hide hrun
  have Hown := hide own2
  have hbel3 := hide (hbel2.mono hb)
  have hmi : (m : Int) ≤ 9223372036854775807 := by omega
  have Hm := hide hm
  clear hrun own2 hbel2 hm
  go_enter Try.func9, Try.ntmps9
  go_upto_region 21 with (first
    | (go_at_call 11; ((with_reducible refine (runeLen_any _ _ (by decide) (by decide)).mono ?_); rintro e w1 ⟨rfl, rfl⟩))
    | (go_at_call 12; ((with_reducible refine (lenInt_neg m D _ HD.out Hm.out hm0).mono ?_); rintro e w1 ⟨rfl, rfl⟩)))
  rw [← hTe]
  have HTe := hide hTe
  have hTd : d + 2 ≤ T := by have := hTe; omega
  clear hTe hdv
  have HbT : l.length + (T + 1) ≤ 2147483747 := by omega
  go_wp2_with (at_builtin; refine wpList_append_runU Hrun.out rfl _ _ rfl rfl rfl rfl ?_)
  have Hat0 := hide (DecsAt.start m d)
  go_loopw [1, 2, 15] (fun t v i wr => ∃ (e j q k : Nat) (out : List UInt8), e + j = d ∧ q ≤ m ∧ j + k = (T + 1) ∧ t = .int .i64 (-(q : Int)) ∧ v = .int .i64 (e : Int) ∧ i = .int .i64 ((l.length : Int) + (k : Int) - 1) ∧ Hid (OwnB wr base (some ⟨w.heap.size, 0, none⟩) (l.length + (T + 1)) C (l ++ List.replicate k 0 ++ out)) ∧ Hid (DecsAt m d j q out) ∧ Hid (Below base w wr))
    (fun _ v _ _ => (intOf v).toNat)
  case atStart => exact ⟨d, 0, m, (T + 1), [], rfl, Nat.le_refl _, by omega, by go_num, rfl, by go_num, hide (by simpa using Hown.out), Hat0, hbel3⟩
  case round =>
    obtain ⟨e, j, q, k, out, hej, hq, hjk, rfl, rfl, rfl, hown, hat, hbel⟩ := hrel
    obtain ⟨k', rfl⟩ : ∃ k', k = k' + 1 := ⟨k - 1, by omega⟩
    have cell1 := hown.out.cell (get_mid l k' out)
    simp only [show ((0 : UInt8).toNat : Int) = 0 from rfl] at cell1
    have frz1 := hown.out.frozen (l.length + k')
    by_cases he : 0 < e
    · have hst := hown.out.set (l.length + k') (dg q)
      rw [set_mid, dg_int, Int.add_comm] at hst
      have Hst := hide hst
      have Hbel2 := hide (hbel.out.setCell (p := ⟨w.heap.size, l.length + k', none⟩) hb (.int .u8 ((q : Int) % 10 + 48)))
      have Hat2 := hide (hat.out.step (by omega))
      clear hst hown hbel hat
      go_wp2
      go_roundw
      case rel => exact ⟨e - 1, j + 1, q / 10, k', _, by omega, by omega, by omega, by go_num, by go_num, by go_num, Hst, Hat2, Hbel2⟩
      case measure => simp [intOf]; omega
    · obtain rfl : e = 0 := by omega
      obtain rfl : d = j := by omega
      rw [show ((l.length : Int) + ((k' + 1 : Nat) : Int) - 1) = (l.length : Int) + (k' : Int) by omega]
      have hst := hown.out.set (l.length + k') 46
      rw [set_mid] at hst
      simp only [show ((46 : UInt8).toNat : Int) = 46 from rfl] at hst
      have Hown2 := hide hst
      have Hbel2 := hide (hbel.out.setCell (p := ⟨w.heap.size, l.length + k', none⟩) hb (.int .u8 46))
      obtain ⟨hout, hqe⟩ := hat.out.done
      have Hfr : Hid (frac m d = 46 :: out) := hide (by unfold frac; rw [if_neg (by omega), hout])
      have hol : out.length = d := hat.out.2.1
      have Hq := hide hqe
      have Hsl := hide (run_from Try.prog 22 Try.underlying22 (by kernel_rfl) w.heap.size (l.length + (T + 1)) C (l.length + k'))
      clear hst hown hbel hat hout hqe he
      by_cases hq0 : q = 0
      · subst hq0
        have hGe : 48 :: 46 :: out = G := by rw [← HG.out, ← Hfr.out]; unfold groupedU; rw [← Hq.out, show 0 / 10 = 0 from rfl, ints_zero]; rfl
        have hTl : T = d + 2 := by rw [← HT.out, ← hGe]; simp [hol]
        obtain rfl : k' = 2 := by omega
        have sm := set_mid l 1 (46 :: out) 48
        have gm := get_mid l 1 (46 :: out)
        simp only [Nat.reduceAdd] at sm gm
        have hst := Hown2.out.set (l.length + 1) 48
        rw [sm] at hst
        have cell2 := Hown2.out.cell gm
        simp only [show ((0 : UInt8).toNat : Int) = 0 from rfl] at cell2
        have frz2 := Hown2.out.frozen (l.length + 1)
        clear sm gm
        simp only [show ((48 : UInt8).toNat : Int) = 48 from rfl] at hst
        have Hown3 := hide hst
        have Hbel3 := hide (Hbel2.out.setCell (p := ⟨w.heap.size, l.length + 1, none⟩) hb (.int .u8 48))
        have HGe := hide hGe
        have HTl := hide hTl
        clear hst hGe hTl
        have hst := Hown3.out.set (l.length + 0) 45
        rw [set_mid] at hst
        have cell3 := Hown3.out.cell (get_mid l 0 (48 :: 46 :: out))
        simp only [show ((0 : UInt8).toNat : Int) = 0 from rfl] at cell3
        have frz3 := Hown3.out.frozen (l.length + 0)
        simp only [show ((45 : UInt8).toNat : Int) = 45 from rfl] at hst
        simp only [Nat.add_zero] at cell3 frz3 hst
        have Hown4 := hide hst
        have Hbel4 := hide (Hbel3.out.setCell (p := ⟨w.heap.size, l.length, none⟩) hb (.int .u8 45))
        clear hst
        go_wp2_with (first
          | (go_at_call 11; ((with_reducible refine (runeLen_any _ _ (by decide) (by decide)).mono ?_); rintro e w1 ⟨rfl, rfl⟩))
          | (refine wpList_slice_runO (Hsl.out _ (by omega) (by omega) (by omega) _ _) _ _ _ rfl rfl rfl rfl rfl ?_)
          | (go_at_call 13; ((with_reducible refine (encRune_any _ _ _ _ _ _ _ (by decide) (by decide) (by omega) cell1 frz1).mono ?_); rintro e w1 ⟨rfl, rfl⟩)))
        go_ret
        have e1 : l ++ grouped true m d size = l ++ List.replicate 0 0 ++ 45 :: 48 :: 46 :: out := by unfold grouped; rw [HG.out, ← HGe.out]; simp
        have e2 : (l ++ grouped true m d size).length = l.length + (T + 1) := by rw [e1]; have := HTl.out; simp; omega
        exact ⟨_, C, by rw [e2]; rfl, by rw [e2, e1]; exact Hown4.out, Hbel4.out⟩
      · have hqp : 0 < q := by omega
        have hqz : ((q : Int) == 0) = false := by rw [beq_eq_false_iff_ne]; omega
        have hqz2 : ((-(q : Int)) == 0) = false := by rw [beq_eq_false_iff_ne]; omega
        have Hat3 : Hid (IntsAt m d size 0 q (46 :: out)) := hide (by rw [Hq.out, ← Hfr.out]; exact IntsAt.start m d size)
        have hkk : k' + (46 :: out).length = (T + 1) := by simp; omega
        clear hq0
        go_wp2_with (first
          | (go_at_call 11; ((with_reducible refine (runeLen_any _ _ (by decide) (by decide)).mono ?_); rintro e w1 ⟨rfl, rfl⟩))
          | (refine wpList_slice_runO (Hsl.out _ (by omega) (by omega) (by omega) _ _) _ _ _ rfl rfl rfl rfl rfl ?_)
          | (go_at_call 13; ((with_reducible refine (encRune_any _ _ _ _ _ _ _ (by decide) (by decide) (by omega) cell1 frz1).mono ?_); rintro e w1 ⟨rfl, rfl⟩)))
        clear hqz hqz2 cell1 frz1
        go_loopw [1, 15, 17] (fun t i x wr => ∃ (jj q k : Nat) (out : List UInt8), (0 < q ∨ 0 < jj) ∧ q ≤ m ∧ jj ≤ 60 ∧ k + out.length = (T + 1) ∧ t = .int .i64 (-(q : Int)) ∧ i = .int .i64 ((l.length : Int) + (k : Int) - 1) ∧ x = .int .i64 (jj : Int) ∧ Hid (OwnB wr base (some ⟨w.heap.size, 0, none⟩) (l.length + (T + 1)) C (l ++ List.replicate k 0 ++ out)) ∧ Hid (IntsAt m d size jj q out) ∧ Hid (Below base w wr))
          (fun t _ _ _ => (intOf t).natAbs)
        case atStart => exact ⟨0, q, k', (46 :: out), .inl hqp, by omega, by omega, hkk, by first | rfl | go_num, by first | rfl | go_num, rfl, Hown2, Hat3, Hbel2⟩
        case round =>
          obtain ⟨jj, q, k, out, hqj, hq, hjj, hk, rfl, rfl, rfl, hown, hat, hbel⟩ := hrel
          by_cases hqp : 0 < q
          · have hroom := hat.out.room (.inl hqp)
            rw [HG.out, HT.out] at hroom
            have hst := hat.out.step (.inl hqp)
            have hjl := hst.1
            have hqz : ((q : Int) == 0) = false := by rw [beq_eq_false_iff_ne]; omega
            have hqz2 : ((-(q : Int)) == 0) = false := by rw [beq_eq_false_iff_ne]; omega
            by_cases hgr : 0 < jj ∧ jj % size = 0
            · rw [if_pos hgr] at hst hroom hjl
              obtain ⟨hj0, hjm⟩ := hgr
              obtain ⟨k', rfl⟩ : ∃ k', k = k' + 1 + 1 := ⟨k - 2, by omega⟩
              have hmod : ((jj : Int) % (size : Int) == 0) = true := by rw [beq_iff_eq]; exact_mod_cast hjm
              have cell1 := hown.out.cell (get_mid l (k' + 1) out)
              simp only [show ((0 : UInt8).toNat : Int) = 0 from rfl] at cell1
              have frz1 := hown.out.frozen (l.length + (k' + 1))
              have own2 := hown.out.set (l.length + (k' + 1)) 44
              rw [set_mid] at own2
              simp only [show ((44 : UInt8).toNat : Int) = 44 from rfl] at own2
              have cell2 := own2.cell (get_mid l k' (44 :: out))
              simp only [show ((0 : UInt8).toNat : Int) = 0 from rfl] at cell2
              have frz2 := own2.frozen (l.length + k')
              have own3 := own2.set (l.length + k') (dg q)
              rw [set_mid, dg_int, Int.add_comm] at own3
              have Hown3 := hide own3
              have Hbel3 := hide ((hbel.out.setCell (p := ⟨w.heap.size, l.length + (k' + 1), none⟩) hb (.int .u8 44)).setCell (p := ⟨w.heap.size, l.length + k', none⟩) hb (.int .u8 ((q : Int) % 10 + 48)))
              have Hst := hide hst
              have Hsl := hide (run_from Try.prog 22 Try.underlying22 (by kernel_rfl) w.heap.size (l.length + (T + 1)) C (l.length + (k' + 1)))
              rw [show ((l.length : Int) + ((k' + 1 + 1 : Nat) : Int) - 1) = (l.length : Int) + (k' : Int) + 1 by omega]
              have hjl2 : jj + 1 ≤ 60 := by simp at hjl; omega
              have hk2 : k' + (dg q :: 44 :: out).length = (T + 1) := by simp; omega
              clear own2 own3 hown hbel hst hat hjm hroom hqj hjl
              go_wp2_with (first
                | (go_at_call 11; ((with_reducible refine (runeLen_any _ _ (by decide) (by decide)).mono ?_); rintro e w1 ⟨rfl, rfl⟩))
                | (refine wpList_slice_runO (Hsl.out _ (by omega) (by omega) (by omega) _ _) _ _ _ rfl rfl rfl rfl rfl ?_)
                | (go_at_call 13; ((with_reducible refine (encRune_any _ _ _ _ _ _ _ (by decide) (by decide) (by omega) cell1 frz1).mono ?_); rintro e w1 ⟨rfl, rfl⟩)))
              go_roundw
              case rel => exact ⟨jj + 1, q / 10, k', _, .inr (by omega), by omega, hjl2, hk2, by go_num, by go_num, by go_num, Hown3, Hst, Hbel3⟩
              case measure => simp [intOf]; omega
            · rw [if_neg hgr] at hst hroom hjl
              obtain ⟨k', rfl⟩ : ∃ k', k = k' + 1 := ⟨k - 1, by omega⟩
              have cell2 := hown.out.cell (get_mid l k' out)
              simp only [show ((0 : UInt8).toNat : Int) = 0 from rfl] at cell2
              have frz2 := hown.out.frozen (l.length + k')
              have own3 := hown.out.set (l.length + k') (dg q)
              rw [set_mid, dg_int, Int.add_comm] at own3
              have Hown3 := hide own3
              have Hbel3 := hide (hbel.out.setCell (p := ⟨w.heap.size, l.length + k', none⟩) hb (.int .u8 ((q : Int) % 10 + 48)))
              have Hst := hide hst
              have hjl2 : jj + 1 ≤ 60 := by simp at hjl; omega
              have hk2 : k' + (dg q :: out).length = (T + 1) := by simp; omega
              by_cases hj0 : 0 < jj
              · have hjm : ¬ jj % size = 0 := fun e => hgr ⟨hj0, e⟩
                have hmod : ((jj : Int) % (size : Int) == 0) = false := by rw [beq_eq_false_iff_ne]; exact_mod_cast hjm
                clear own3 hown hbel hst hat hgr hjm hroom hqj hjl
                go_wp2
                go_roundw
                case rel => exact ⟨jj + 1, q / 10, k', _, .inr (by omega), by omega, hjl2, hk2, by go_num, by go_num, by go_num, Hown3, Hst, Hbel3⟩
                case measure => simp [intOf]; omega
              · obtain rfl : jj = 0 := by omega
                clear own3 hown hbel hst hat hgr hroom hqj hjl
                go_wp2
                go_roundw
                case rel => exact ⟨1, q / 10, k', _, .inr (by omega), by omega, hjl2, hk2, by go_num, by go_num, by go_num, Hown3, Hst, Hbel3⟩
                case measure => simp [intOf]; omega
          · obtain rfl : q = 0 := by omega
            have hout := hat.out.done (by omega)
            rw [HG.out] at hout
            subst hout
            have hTl := HT.out
            obtain rfl : k = 0 + 1 := by omega
            have cell2 := hown.out.cell (get_mid l 0 out)
            simp only [show ((0 : UInt8).toNat : Int) = 0 from rfl] at cell2
            have frz2 := hown.out.frozen (l.length + 0)
            have own3 := hown.out.set (l.length + 0) 45
            rw [set_mid] at own3
            simp only [show ((45 : UInt8).toNat : Int) = 45 from rfl] at own3
            simp only [Nat.add_zero] at cell2 frz2 own3
            have Hown3 := hide own3
            have Hbel3 := hide (hbel.out.setCell (p := ⟨w.heap.size, l.length, none⟩) hb (.int .u8 45))
            clear own3 hown hbel
            clear hTl hat
            go_wp2
            go_ret
            have e1 : l ++ grouped true m d size = l ++ List.replicate 0 0 ++ 45 :: out := by unfold grouped; rw [HG.out]; simp
            have e2 : (l ++ grouped true m d size).length = l.length + (T + 1) := by rw [e1]; have := HT.out; simp; omega
            exact ⟨_, C, by rw [e2]; rfl, by rw [e2, e1]; exact Hown3.out, Hbel3.out⟩

set_option maxRecDepth 100000 in
set_option maxHeartbeats 4000000 in
theorem appNum_negOut (base g m size : Nat) (d : Nat) (hd6 : d ≤ 6) (l : List UInt8) (w : World) (own : OwnB w base (some ⟨g, 0, none⟩) l.length l.length l) (h1 : l.length ≤ 2147483647) (hb : base ≤ w.heap.size) (hm : m < 1000000000000000) (hs : 0 < size) (hs6 : size ≤ 6) (hd0 : 0 < d) (hdD : ¬ d < (dec m).length) (hm0 : 0 < m) :
    Calls Try.prog 9 #[.slice (some ⟨g, 0, none⟩) l.length l.length, .int .i64 (-(m : Int)), .int .i64 (d : Int), .int .i64 (size : Int), .int .i32 44, .int .i32 46] w (OwnRetB base (l ++ grouped true m d size) w) := by
  obtain ⟨hD1, hD2⟩ := grouped_reckon m d size hs
  have hGle := groupedU_le m d size hs hm
  have hLp := dec_ne m
  have hL16 := dec_len_le 14 m (by simpa using hm)
  obtain ⟨G, hG⟩ : ∃ G, groupedU m d size = G := ⟨_, rfl⟩
  rw [hG] at hD1 hD2 hGle
  obtain ⟨D, hD⟩ : ∃ D, (dec m).length = D := ⟨_, rfl⟩
  rw [hD] at hD1 hD2 hLp hL16 hdD
  obtain ⟨T, hT⟩ : ∃ T, G.length = T := ⟨_, rfl⟩
  rw [hT] at hD1 hD2 hGle
  have HG := hide hG
  have HD := hide hD
  have HT := hide hT
  clear hG hD hT
  have hTe : T = d + 2 := by have := hD2 hdD; omega
  have hTd : d + 2 ≤ T := by omega
  have HTe := hide hTe
  clear hTe
  clear hD1 hD2
  have hTp : 0 < T := by omega
  have hsz1 : ((size : Int) == 0) = false := by rw [beq_eq_false_iff_ne]; omega
  obtain ⟨C, w2, hrun, own2, hbel2⟩ := run_append_zeros8 (P := Try.prog) 22 3 22 Try.underlying22 Try.underlying3 u8_info own (T + 1) (by omega) (by omega) hb
  have hCle := own2.le.1
  have Hrun := hide hrun
  have Hown := hide own2
  have hbel3 := hide (hbel2.mono hb)
  have hmi : (m : Int) ≤ 9223372036854775807 := by omega
  have Hm := hide hm
  clear hrun own2 hbel2 hm
  go_enter Try.func9, Try.ntmps9
  go_upto_region 21 with (first
    | (go_at_call 11; ((with_reducible refine (runeLen_any _ _ (by decide) (by decide)).mono ?_); rintro e w1 ⟨rfl, rfl⟩))
    | (go_at_call 12; ((with_reducible refine (lenInt_neg m D _ HD.out Hm.out hm0).mono ?_); rintro e w1 ⟨rfl, rfl⟩)))
  rw [show (1 + (d : Int) + 1) = (T : Int) by have := HTe.out; omega]
  skip
  have HbT : l.length + (T + 1) ≤ 2147483747 := by omega
  go_wp2_with (at_builtin; refine wpList_append_runU Hrun.out rfl _ _ rfl rfl rfl rfl ?_)
  have Hat0 := hide (DecsAt.start m d)
  go_loopw [1, 2, 15] (fun t v i wr => ∃ (e j q k : Nat) (out : List UInt8), e + j = d ∧ q ≤ m ∧ j + k = (T + 1) ∧ t = .int .i64 (-(q : Int)) ∧ v = .int .i64 (e : Int) ∧ i = .int .i64 ((l.length : Int) + (k : Int) - 1) ∧ Hid (OwnB wr base (some ⟨w.heap.size, 0, none⟩) (l.length + (T + 1)) C (l ++ List.replicate k 0 ++ out)) ∧ Hid (DecsAt m d j q out) ∧ Hid (Below base w wr))
    (fun _ v _ _ => (intOf v).toNat)
  case atStart => exact ⟨d, 0, m, (T + 1), [], rfl, Nat.le_refl _, by omega, by go_num, rfl, by go_num, hide (by simpa using Hown.out), Hat0, hbel3⟩
  case round =>
    obtain ⟨e, j, q, k, out, hej, hq, hjk, rfl, rfl, rfl, hown, hat, hbel⟩ := hrel
    obtain ⟨k', rfl⟩ : ∃ k', k = k' + 1 := ⟨k - 1, by omega⟩
    have cell1 := hown.out.cell (get_mid l k' out)
    simp only [show ((0 : UInt8).toNat : Int) = 0 from rfl] at cell1
    have frz1 := hown.out.frozen (l.length + k')
    by_cases he : 0 < e
    · have hst := hown.out.set (l.length + k') (dg q)
      rw [set_mid, dg_int, Int.add_comm] at hst
      have Hst := hide hst
      have Hbel2 := hide (hbel.out.setCell (p := ⟨w.heap.size, l.length + k', none⟩) hb (.int .u8 ((q : Int) % 10 + 48)))
      have Hat2 := hide (hat.out.step (by omega))
      clear hst hown hbel hat
      go_wp2
      go_roundw
      case rel => exact ⟨e - 1, j + 1, q / 10, k', _, by omega, by omega, by omega, by go_num, by go_num, by go_num, Hst, Hat2, Hbel2⟩
      case measure => simp [intOf]; omega
    · obtain rfl : e = 0 := by omega
      obtain rfl : d = j := by omega
      rw [show ((l.length : Int) + ((k' + 1 : Nat) : Int) - 1) = (l.length : Int) + (k' : Int) by omega]
      have hst := hown.out.set (l.length + k') 46
      rw [set_mid] at hst
      simp only [show ((46 : UInt8).toNat : Int) = 46 from rfl] at hst
      have Hown2 := hide hst
      have Hbel2 := hide (hbel.out.setCell (p := ⟨w.heap.size, l.length + k', none⟩) hb (.int .u8 46))
      obtain ⟨hout, hqe⟩ := hat.out.done
      have Hfr : Hid (frac m d = 46 :: out) := hide (by unfold frac; rw [if_neg (by omega), hout])
      have hol : out.length = d := hat.out.2.1
      have Hq := hide hqe
      have Hsl := hide (run_from Try.prog 22 Try.underlying22 (by kernel_rfl) w.heap.size (l.length + (T + 1)) C (l.length + k'))
      clear hst hown hbel hat hout hqe he
      by_cases hq0 : q = 0
      · subst hq0
        have hGe : 48 :: 46 :: out = G := by rw [← HG.out, ← Hfr.out]; unfold groupedU; rw [← Hq.out, show 0 / 10 = 0 from rfl, ints_zero]; rfl
        have hTl : T = d + 2 := by rw [← HT.out, ← hGe]; simp [hol]
        obtain rfl : k' = 2 := by omega
        have sm := set_mid l 1 (46 :: out) 48
        have gm := get_mid l 1 (46 :: out)
        simp only [Nat.reduceAdd] at sm gm
        have hst := Hown2.out.set (l.length + 1) 48
        rw [sm] at hst
        have cell2 := Hown2.out.cell gm
        simp only [show ((0 : UInt8).toNat : Int) = 0 from rfl] at cell2
        have frz2 := Hown2.out.frozen (l.length + 1)
        clear sm gm
        simp only [show ((48 : UInt8).toNat : Int) = 48 from rfl] at hst
        have Hown3 := hide hst
        have Hbel3 := hide (Hbel2.out.setCell (p := ⟨w.heap.size, l.length + 1, none⟩) hb (.int .u8 48))
        have HGe := hide hGe
        have HTl := hide hTl
        clear hst hGe hTl
        have hst := Hown3.out.set (l.length + 0) 45
        rw [set_mid] at hst
        have cell3 := Hown3.out.cell (get_mid l 0 (48 :: 46 :: out))
        simp only [show ((0 : UInt8).toNat : Int) = 0 from rfl] at cell3
        have frz3 := Hown3.out.frozen (l.length + 0)
        simp only [show ((45 : UInt8).toNat : Int) = 45 from rfl] at hst
        simp only [Nat.add_zero] at cell3 frz3 hst
        have Hown4 := hide hst
        have Hbel4 := hide (Hbel3.out.setCell (p := ⟨w.heap.size, l.length, none⟩) hb (.int .u8 45))
        clear hst
        go_wp2_with (first
          | (go_at_call 11; ((with_reducible refine (runeLen_any _ _ (by decide) (by decide)).mono ?_); rintro e w1 ⟨rfl, rfl⟩))
          | (refine wpList_slice_runO (Hsl.out _ (by omega) (by omega) (by omega) _ _) _ _ _ rfl rfl rfl rfl rfl ?_)
          | (go_at_call 13; ((with_reducible refine (encRune_any _ _ _ _ _ _ _ (by decide) (by decide) (by omega) cell1 frz1).mono ?_); rintro e w1 ⟨rfl, rfl⟩)))
        go_ret
        have e1 : l ++ grouped true m d size = l ++ List.replicate 0 0 ++ 45 :: 48 :: 46 :: out := by unfold grouped; rw [HG.out, ← HGe.out]; simp
        have e2 : (l ++ grouped true m d size).length = l.length + (T + 1) := by rw [e1]; have := HTl.out; simp; omega
        exact ⟨_, C, by rw [e2]; rfl, by rw [e2, e1]; exact Hown4.out, Hbel4.out⟩
      · have hqp : 0 < q := by omega
        have hqz : ((q : Int) == 0) = false := by rw [beq_eq_false_iff_ne]; omega
        have hqz2 : ((-(q : Int)) == 0) = false := by rw [beq_eq_false_iff_ne]; omega
        have Hat3 : Hid (IntsAt m d size 0 q (46 :: out)) := hide (by rw [Hq.out, ← Hfr.out]; exact IntsAt.start m d size)
        have hkk : k' + (46 :: out).length = (T + 1) := by simp; omega
        clear hq0
        go_wp2_with (first
          | (go_at_call 11; ((with_reducible refine (runeLen_any _ _ (by decide) (by decide)).mono ?_); rintro e w1 ⟨rfl, rfl⟩))
          | (refine wpList_slice_runO (Hsl.out _ (by omega) (by omega) (by omega) _ _) _ _ _ rfl rfl rfl rfl rfl ?_)
          | (go_at_call 13; ((with_reducible refine (encRune_any _ _ _ _ _ _ _ (by decide) (by decide) (by omega) cell1 frz1).mono ?_); rintro e w1 ⟨rfl, rfl⟩)))
        clear hqz hqz2 cell1 frz1
        go_loopw [1, 15, 17] (fun t i x wr => ∃ (jj q k : Nat) (out : List UInt8), (0 < q ∨ 0 < jj) ∧ q ≤ m ∧ jj ≤ 60 ∧ k + out.length = (T + 1) ∧ t = .int .i64 (-(q : Int)) ∧ i = .int .i64 ((l.length : Int) + (k : Int) - 1) ∧ x = .int .i64 (jj : Int) ∧ Hid (OwnB wr base (some ⟨w.heap.size, 0, none⟩) (l.length + (T + 1)) C (l ++ List.replicate k 0 ++ out)) ∧ Hid (IntsAt m d size jj q out) ∧ Hid (Below base w wr))
          (fun t _ _ _ => (intOf t).natAbs)
        case atStart => exact ⟨0, q, k', (46 :: out), .inl hqp, by omega, by omega, hkk, by first | rfl | go_num, by first | rfl | go_num, rfl, Hown2, Hat3, Hbel2⟩
        case round =>
          obtain ⟨jj, q, k, out, hqj, hq, hjj, hk, rfl, rfl, rfl, hown, hat, hbel⟩ := hrel
          by_cases hqp : 0 < q
          · have hroom := hat.out.room (.inl hqp)
            rw [HG.out, HT.out] at hroom
            have hst := hat.out.step (.inl hqp)
            have hjl := hst.1
            have hqz : ((q : Int) == 0) = false := by rw [beq_eq_false_iff_ne]; omega
            have hqz2 : ((-(q : Int)) == 0) = false := by rw [beq_eq_false_iff_ne]; omega
            by_cases hgr : 0 < jj ∧ jj % size = 0
            · rw [if_pos hgr] at hst hroom hjl
              obtain ⟨hj0, hjm⟩ := hgr
              obtain ⟨k', rfl⟩ : ∃ k', k = k' + 1 + 1 := ⟨k - 2, by omega⟩
              have hmod : ((jj : Int) % (size : Int) == 0) = true := by rw [beq_iff_eq]; exact_mod_cast hjm
              have cell1 := hown.out.cell (get_mid l (k' + 1) out)
              simp only [show ((0 : UInt8).toNat : Int) = 0 from rfl] at cell1
              have frz1 := hown.out.frozen (l.length + (k' + 1))
              have own2 := hown.out.set (l.length + (k' + 1)) 44
              rw [set_mid] at own2
              simp only [show ((44 : UInt8).toNat : Int) = 44 from rfl] at own2
              have cell2 := own2.cell (get_mid l k' (44 :: out))
              simp only [show ((0 : UInt8).toNat : Int) = 0 from rfl] at cell2
              have frz2 := own2.frozen (l.length + k')
              have own3 := own2.set (l.length + k') (dg q)
              rw [set_mid, dg_int, Int.add_comm] at own3
              have Hown3 := hide own3
              have Hbel3 := hide ((hbel.out.setCell (p := ⟨w.heap.size, l.length + (k' + 1), none⟩) hb (.int .u8 44)).setCell (p := ⟨w.heap.size, l.length + k', none⟩) hb (.int .u8 ((q : Int) % 10 + 48)))
              have Hst := hide hst
              have Hsl := hide (run_from Try.prog 22 Try.underlying22 (by kernel_rfl) w.heap.size (l.length + (T + 1)) C (l.length + (k' + 1)))
              rw [show ((l.length : Int) + ((k' + 1 + 1 : Nat) : Int) - 1) = (l.length : Int) + (k' : Int) + 1 by omega]
              have hjl2 : jj + 1 ≤ 60 := by simp at hjl; omega
              have hk2 : k' + (dg q :: 44 :: out).length = (T + 1) := by simp; omega
              clear own2 own3 hown hbel hst hat hjm hroom hqj hjl
              go_wp2_with (first
                | (go_at_call 11; ((with_reducible refine (runeLen_any _ _ (by decide) (by decide)).mono ?_); rintro e w1 ⟨rfl, rfl⟩))
                | (refine wpList_slice_runO (Hsl.out _ (by omega) (by omega) (by omega) _ _) _ _ _ rfl rfl rfl rfl rfl ?_)
                | (go_at_call 13; ((with_reducible refine (encRune_any _ _ _ _ _ _ _ (by decide) (by decide) (by omega) cell1 frz1).mono ?_); rintro e w1 ⟨rfl, rfl⟩)))
              go_roundw
              case rel => exact ⟨jj + 1, q / 10, k', _, .inr (by omega), by omega, hjl2, hk2, by go_num, by go_num, by go_num, Hown3, Hst, Hbel3⟩
              case measure => simp [intOf]; omega
            · rw [if_neg hgr] at hst hroom hjl
              obtain ⟨k', rfl⟩ : ∃ k', k = k' + 1 := ⟨k - 1, by omega⟩
              have cell2 := hown.out.cell (get_mid l k' out)
              simp only [show ((0 : UInt8).toNat : Int) = 0 from rfl] at cell2
              have frz2 := hown.out.frozen (l.length + k')
              have own3 := hown.out.set (l.length + k') (dg q)
              rw [set_mid, dg_int, Int.add_comm] at own3
              have Hown3 := hide own3
              have Hbel3 := hide (hbel.out.setCell (p := ⟨w.heap.size, l.length + k', none⟩) hb (.int .u8 ((q : Int) % 10 + 48)))
              have Hst := hide hst
              have hjl2 : jj + 1 ≤ 60 := by simp at hjl; omega
              have hk2 : k' + (dg q :: out).length = (T + 1) := by simp; omega
              by_cases hj0 : 0 < jj
              · have hjm : ¬ jj % size = 0 := fun e => hgr ⟨hj0, e⟩
                have hmod : ((jj : Int) % (size : Int) == 0) = false := by rw [beq_eq_false_iff_ne]; exact_mod_cast hjm
                clear own3 hown hbel hst hat hgr hjm hroom hqj hjl
                go_wp2
                go_roundw
                case rel => exact ⟨jj + 1, q / 10, k', _, .inr (by omega), by omega, hjl2, hk2, by go_num, by go_num, by go_num, Hown3, Hst, Hbel3⟩
                case measure => simp [intOf]; omega
              · obtain rfl : jj = 0 := by omega
                clear own3 hown hbel hst hat hgr hroom hqj hjl
                go_wp2
                go_roundw
                case rel => exact ⟨1, q / 10, k', _, .inr (by omega), by omega, hjl2, hk2, by go_num, by go_num, by go_num, Hown3, Hst, Hbel3⟩
                case measure => simp [intOf]; omega
          · obtain rfl : q = 0 := by omega
            have hout := hat.out.done (by omega)
            rw [HG.out] at hout
            subst hout
            have hTl := HT.out
            obtain rfl : k = 0 + 1 := by omega
            have cell2 := hown.out.cell (get_mid l 0 out)
            simp only [show ((0 : UInt8).toNat : Int) = 0 from rfl] at cell2
            have frz2 := hown.out.frozen (l.length + 0)
            have own3 := hown.out.set (l.length + 0) 45
            rw [set_mid] at own3
            simp only [show ((45 : UInt8).toNat : Int) = 45 from rfl] at own3
            simp only [Nat.add_zero] at cell2 frz2 own3
            have Hown3 := hide own3
            have Hbel3 := hide (hbel.out.setCell (p := ⟨w.heap.size, l.length, none⟩) hb (.int .u8 45))
            clear own3 hown hbel
            clear hTl hat
            go_wp2
            go_ret
            have e1 : l ++ grouped true m d size = l ++ List.replicate 0 0 ++ 45 :: out := by unfold grouped; rw [HG.out]; simp
            have e2 : (l ++ grouped true m d size).length = l.length + (T + 1) := by rw [e1]; have := HT.out; simp; omega
            exact ⟨_, C, by rw [e2]; rfl, by rw [e2, e1]; exact Hown3.out, Hbel3.out⟩
end Go.Proofs.Ytgalfebplancdaa
