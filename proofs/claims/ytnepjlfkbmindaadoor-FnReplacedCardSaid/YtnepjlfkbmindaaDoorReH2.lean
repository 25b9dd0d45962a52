/- One hexadecimal number's entity is replaced in place. Conditions: two or three digits that mean a small letter. -/
import Derived.Test.YtnepjlfkbmindaaDoorReX
namespace Go.Proofs.YtnepjlfkbmindaaDoor
open Go.RowKit
set_option linter.unusedVariables false
set_option linter.unusedSimpArgs false

set_option maxRecDepth 100000 in
set_option maxHeartbeats 16000000 in
theorem rep_hexM (g n c i xl B base : Nat) (l x : List UInt8) (tc : UInt8) (V : Nat → Nat) (w : World) (own : OwnB w base (some ⟨g, 0, none⟩) n c l) (hf : Lies l i (38 :: 35 :: 120 :: (x ++ [59]))) (hxl : x.length = xl) (h2 : 2 ≤ xl) (h3 : xl ≤ 3) (hx : ∀ d ∈ x, isHexS d)
    (hV0 : V 0 = 0) (hVs : ∀ (q : Nat) (d : UInt8), x[q]? = some d → V (q + 1) = V q * 16 + hexD d) (hVb : ∀ q, V q ≤ 122) (hVt : V xl = tc.toNat) (htc : isSmall tc) (hn : n ≤ 2147483647) (hEc : ¬ c = i + xl + 4) :
    Calls Tryd.prog 23 #[.slice (some ⟨g, 0, none⟩) n c, .int .i64 (i : Int), .map (some B), .map none] w (RepRet w base g c n i l (38 :: 35 :: 120 :: (x ++ [59])) [tc]) := by
  have hlen := own.len
  have hnc := own.le.1
  have hfl : (38 :: 35 :: 120 :: (x ++ [59])).length = xl + 4 := by simp [hxl]
  have hle := hf.le
  rw [hfl, hlen] at hle
  have e38 : (38 :: 35 :: 120 :: (x ++ [59])) = [38, 35, 120] ++ (x ++ [59]) := rfl
  have h35 : l[i + 1]? = some 35 := hf.at_ (j := 1) rfl
  have h120 : l[i + 2]? = some 120 := hf.at_ (j := 2) rfl
  have hc2 := own.cellI h120
  have hfx : Lies l (i + 3) x := by
    have := hf
    rw [e38] at this
    simpa using this.right.left
  have hsemi : l[i + 3 + xl]? = some 59 := by
    have := hf
    rw [e38] at this
    have := this.right.right.at_ (j := 0) rfl
    simpa [hxl] using this
  have Own := hide own
  have Hf := hide hf
  have Hfx := hide hfx
  have Hsemi := hide hsemi
  have Hx := hide hx
  have Hxl := hide hxl
  have HV0 := hide hV0
  have HVs := hide hVs
  have HVb := hide hVb
  have HVt := hide hVt
  obtain ⟨x0, hx0⟩ : ∃ d, x[0]? = some d := ⟨_, List.getElem?_eq_getElem (by omega)⟩
  have hc1 := own.cellI h35
  have hc0 := own.cellI (hfx.at_ hx0)
  have hs0 := hx x0 (List.mem_of_getElem? hx0)
  have h256 := tc.toNat_lt
  obtain ⟨J, hJ⟩ : ∃ J, i + 1 = J := ⟨_, rfl⟩
  obtain ⟨J2, hJ2⟩ : ∃ J, i + 3 = J := ⟨_, rfl⟩
  rw [hJ] at hc1
  have hJI : (i : Int) + 1 = (J : Int) := by omega
  obtain ⟨J1, hJ1⟩ : ∃ J, i + 2 = J := ⟨_, rfl⟩
  rw [hJ1] at hc2
  have hJI1 : (J : Int) + 1 = (J1 : Int) := by omega
  have hJI2 : (J1 : Int) + 1 = (J2 : Int) := by omega
  have hJ1n : (J1 : Int) < (n : Int) := by omega
  have hJn : (J : Int) < (n : Int) := by omega
  have hJ2n : (J2 : Int) < (n : Int) := by omega
  have sJ : IntKind.i64.wrap (J : Int) = (J : Int) := IntWalk.i64_in _ (by omega)
  have sJ2 : IntKind.i64.wrap (J2 : Int) = (J2 : Int) := IntWalk.i64_in _ (by omega)
  have sJ1 : IntKind.i64.wrap (J1 : Int) = (J1 : Int) := IntWalk.i64_in _ (by omega)
  clear own hf hfx hsemi hx hxl hx0 hs0 e38 hV0 hVs hVb hVt h35 h120
  go_enter Tryd.func23, Tryd.ntmps23
  go_wp2
  clear hc0 hc1 hc2
  go_loopg [11, 12] xl (fun gk jv cv wr => ∃ q : Nat, xl - q ≤ gk ∧ q ≤ xl ∧ jv = .int .i64 ((J2 + q : Nat) : Int) ∧ cv = .int .i64 ((V q : Nat) : Int) ∧ w = wr)
  case atStart => exact ⟨0, by omega, Nat.zero_le _, by first | rfl | go_num, by rw [HV0.out]; rfl, rfl⟩
  case round =>
    obtain ⟨q, hgk, hq, rfl, rfl, rfl⟩ := hrel
    obtain ⟨M, hM⟩ : ∃ M, J2 + q = M := ⟨_, rfl⟩
    obtain ⟨v, hv⟩ : ∃ v, V q = v := ⟨_, rfl⟩
    rw [hM, hv]
    have hMn : (M : Int) < (n : Int) := by omega
    have hMc : (M : Int) ≤ (c : Int) := by omega
    have hvb : v ≤ 122 := hv ▸ HVb.out q
    by_cases hqx : q < xl
    · obtain ⟨d, hd⟩ : ∃ d, x[q]? = some d := ⟨_, List.getElem?_eq_getElem (by have := Hxl.out; omega)⟩
      have cell1 := Own.out.cellI (Hfx.out.at_ hd)
      rw [hJ2, hM] at cell1
      have hdd := Hx.out d (List.mem_of_getElem? hd)
      have hvs := HVs.out q d hd
      rw [hv] at hvs
      have hd256 := d.toNat_lt
      unfold isHexS at hdd
      unfold hexD at hvs
      rcases hdd with ⟨h48, h57⟩ | ⟨h97, h102⟩
      · rw [if_pos h57] at hvs
        obtain ⟨v', hv'⟩ : ∃ v', V (q + 1) = v' := ⟨_, rfl⟩
        have hv16 : v * 16 ≤ 122 := by have := HVb.out (q + 1); omega
        have hvI : (v' : Int) = (v : Int) * 16 + ((d.toNat : Int) - 48) := by omega
        clear hd
        go_wp2
        go_roundg (xl - (q + 1))
        case rel => exact ⟨q + 1, Nat.le_refl _, by omega, by go_num, by (rw [hv', hvI]) <;> first | rfl | go_num, rfl⟩
        case measure => omega
      · rw [if_neg (by omega)] at hvs
        obtain ⟨v', hv'⟩ : ∃ v', V (q + 1) = v' := ⟨_, rfl⟩
        have hv16 : v * 16 ≤ 122 := by have := HVb.out (q + 1); omega
        have hvI : (v' : Int) = (v : Int) * 16 + ((d.toNat : Int) - 97) + 10 := by omega
        have h48 : 48 ≤ d.toNat := by omega
        have h57 : ¬ d.toNat ≤ 57 := by omega
        have h70 : ¬ d.toNat ≤ 70 := by omega
        clear hd
        go_wp2
        go_roundg (xl - (q + 1))
        case rel => exact ⟨q + 1, Nat.le_refl _, by omega, by go_num, by (rw [hv', hvI]) <;> first | rfl | go_num, rfl⟩
        case measure => omega
    · obtain rfl : q = xl := by omega
      have cell1 := Own.out.cellI Hsemi.out
      rw [hJ2, hM] at cell1
      obtain rfl : v = tc.toNat := hv.symm.trans HVt.out
      have h97 := htc.1
      have h122 := htc.2
      have lit : BS (w.alloc (.cells #[.int .u8 (tc.toNat : Int)] 5)) (some ⟨w.heap.size, 0, none⟩) [tc] := BS.lit rfl [tc] _ _ _ rfl
      have cr : (w.alloc (.cells #[.int .u8 (tc.toNat : Int)] 5)).cell? ⟨w.heap.size, 0, none⟩ = some (.int .u8 (tc.toNat : Int)) := by
        obtain ⟨b9, o9, e9, c9⟩ := lit.at_ (k := 0) rfl
        simp only [Option.some.injEq, Addr.mk.injEq, and_true] at e9
        obtain ⟨rfl, rfl⟩ := e9
        exact c9
      have own1 : OwnB (w.alloc (.cells #[.int .u8 (tc.toNat : Int)] 5)) base (some ⟨g, 0, none⟩) n c l := Own.out.alloc _
      have g1 : w.grownBy (w.alloc (.cells #[.int .u8 (tc.toNat : Int)] 5)) (some g) := World.grownBy_alloc w _ (some g)
      have cell2 := own1.cellI Hsemi.out
      rw [hJ2, hM] at cell2
      obtain ⟨n', hn'⟩ : ∃ n', n' + (M + 1) = n + J := ⟨n + J - (M + 1), by omega⟩
      obtain ⟨w2, run1, own2, g2⟩ := own1.copy_in lit i (n - i) (c - i) 1 1 1 rfl (by omega) (by omega) rfl
      have hfl2 : i + (38 :: 35 :: 120 :: (x ++ [59])).length = M + 1 := by rw [hfl]; omega
      have hsw := Hf.out.swap (t := [tc]) (m := 1) rfl (by rw [hfl]; omega)
      rw [hfl2, hJ] at hsw
      rw [hJ] at own2
      have hl2 := own2.len
      obtain ⟨l2, hl2e⟩ : ∃ l2, l.take i ++ [tc] ++ l.drop J = l2 := ⟨_, rfl⟩
      rw [hl2e] at own2 hsw hl2
      have hd2 : (l2.drop (M + 1)).length = n - (M + 1) := by rw [List.length_drop, hl2]
      have hs1 := fun w => run_loE (P := Tryd.prog) 26 Tryd.underlying26 (by kernel_rfl) g n c i (i : Int) rfl (by omega) (by omega) hnc .i64 w
      have hh := run_hi8 (P := Tryd.prog) (A := some ⟨g, 0, none⟩) 26 Tryd.underlying26 (by kernel_rfl) n c n' ((n : Int) - ((M : Int) + 1 - (i : Int)) + 1) (by omega) (by omega) .i64
      have Hs1 := hide hs1
      have Hh := hide hh
      have hres : (l2.take J ++ l2.drop (M + 1) ++ l2.drop (J + (n - (M + 1)))).take n' = l.take i ++ [tc] ++ l.drop (M + 1) := by
        rw [← hsw, List.take_append_of_le_length (by rw [List.length_append, List.length_take, hd2]; omega), List.take_of_length_le (by rw [List.length_append, List.length_take, hd2]; omega)]
      have Hfin : Hid (∀ w3, OwnB w3 base (some ⟨g, 0, none⟩) n c (l2.take J ++ l2.drop (M + 1) ++ l2.drop (J + (n - (M + 1)))) → OwnB w3 base (some ⟨g, 0, none⟩) n' c (l.take i ++ [tc] ++ l.drop (i + (38 :: 35 :: 120 :: (x ++ [59])).length))) := hide (fun w3 h => by
        rw [hfl2, ← hres]
        exact h.take (by omega))
      have Hn' : Hid (n' + (38 :: 35 :: 120 :: (x ++ [59])).length = n + [tc].length) := hide (by rw [hfl]; simp; omega)
      have s2 : IntKind.i64.wrap ((M : Int) + 1) = (M : Int) + 1 := IntWalk.i64_in _ (by omega)
      have s3 : IntKind.i64.wrap ((M : Int) + 1 - (i : Int)) = (M : Int) + 1 - (i : Int) := IntWalk.i64_in _ (by omega)
      have s4 : (2 : Int) < (M : Int) + 1 - (i : Int) := by omega
      have S := hide (And.intro s2 s2)
      have hr54 : ((J : Int) - 1) = ((i + [tc].length - 1 : Nat) : Int) := by simp; omega
      have Hr54 := hide hr54
      have Hlk := hide (look_no (w.alloc (.cells #[.int .u8 (tc.toNat : Int)] 5)) tc)
      have h38 : ((tc.toNat : Int) == 38) = false := by rw [beq_eq_false_iff_ne]; omega
      have hMi : ¬ (M : Int) ≤ (J2 : Int) := by omega
      clear hs1 hh hres s2 hr54 hsw lit own1
      have hE : ¬ c = M + 1 := by omega
      obtain ⟨w3, run2, own3, g3⟩ := OwnB.copy_in (own2.drew) ((own2.partD (M + 1)).drew) J (n - J) (c - J) (c - (M + 1)) (n - (M + 1)) (n - (M + 1)) hd2 (by omega) (by omega) rfl
      have Run2 := hide run2
      have Own3 := hide (Hfin.out _ own3)
      have hg3 : w.grownBy w3 (some g) := World.grownBy.trans (World.grownBy.trans g1 g2) (World.grownBy.trans (b := w2.drew) (grown_drewN w2 1 _) g3)
      have G3 := hide hg3
      clear run2 own3 g3 own2 g1 g2 hg3 hd2 hl2 hl2e
      go_wp2_with (first
          | ((with_reducible refine wpList_slice_runO (Hs1.out _) _ _ _ ?_ rfl ?_ ?_ ?_ ?_); (rfl); (rfl); (rfl); (rfl))
          | ((with_reducible refine wpList_lookup_runC Hlk.out _ _ ?_ rfl ?_ ?_ ?_); (rfl); (rfl); (rfl)))
      clear run1 cr h38 cell1 cell2
      obtain ⟨s2, _⟩ := S.out
      have t5 : ¬ c = J := by omega
      have t2 : 0 ≤ (M : Int) + 1 := by omega
      have t4 : ((M : Int) + 1).toNat = M + 1 := by omega
      have t7 : (M : Int) + 1 ≤ (n : Int) := by omega
      have s5 : IntKind.i64.wrap ((n : Int) - ((M : Int) + 1 - (i : Int))) = (n : Int) - ((M : Int) + 1 - (i : Int)) := IntWalk.i64_in _ (by omega)
      have s6 : IntKind.i64.wrap ((n : Int) - ((M : Int) + 1 - (i : Int)) + 1) = (n : Int) - ((M : Int) + 1 - (i : Int)) + 1 := IntWalk.i64_in _ (by omega)
      have t6 : J ≤ n := by omega
      have s7 : IntKind.i64.wrap ((J : Int) - 1) = (J : Int) - 1 := IntWalk.i64_in _ (by omega)
      go_region_law ((with_reducible refine step_copy_runG Run2.out _ _ ?_ rfl rfl ?_ ?_ ?_); (rfl); (simp [Act.eval, Act.put]); (simp [Act.eval, Act.put]))
      go_wp2_with ((with_reducible refine wpList_slice_runO (Hh.out _) _ _ _ ?_ rfl ?_ ?_ ?_ ?_); (rfl); (rfl); (rfl); (rfl))
      go_ret2
      exact ⟨n', Hn'.out, by rw [Hr54.out]; rfl, Own3.out, G3.out⟩
end Go.Proofs.YtnepjlfkbmindaaDoor
