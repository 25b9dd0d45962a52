/- One entity with a name is replaced in place. Conditions: a name of 2 to 30 small letters, a text of letters and digits that is not longer. -/
import Derived.Test.YtnepjlfkbmindaaDoorReB
namespace Go.Proofs.YtnepjlfkbmindaaDoor
open Go.RowKit
set_option linter.unusedVariables false
set_option linter.unusedSimpArgs false

set_option maxRecDepth 100000 in
set_option maxHeartbeats 4000000 in
theorem rep_named (g n c i xl m rc B base : Nat) (R : Option Addr) (l x t : List UInt8) (ps : List EntV) (w : World) (own : OwnB w base (some ⟨g, 0, none⟩) n c l) (hf : Lies l i (38 :: (x ++ [59]))) (hxl : x.length = xl) (h2 : 2 ≤ xl) (h30 : xl ≤ 30) (hx : ∀ d ∈ x, isSmall d)
    (hm : t.length = m) (h1 : 1 ≤ m) (hmx : m ≤ xl) (ht : ∀ d ∈ t, isAn d) (map : MapS w B ps) (hp : (x, .slice R m rc) ∈ ps) (bt : BS w R t) (hn : n ≤ 2147483647) :
    Calls Tryd.prog 23 #[.slice (some ⟨g, 0, none⟩) n c, .int .i64 (i : Int), .map (some B), .map none] w (RepRet w base g c n i l (38 :: (x ++ [59])) t) := by
  have hlen := own.len
  have hnc := own.le.1
  have hfl : (38 :: (x ++ [59])).length = xl + 2 := by simp [hxl]
  have hle := hf.le
  rw [hfl, hlen] at hle
  have e38 : (38 :: (x ++ [59])) = [38] ++ (x ++ [59]) := rfl
  have hfx : Lies l (i + 1) x := by
    have := hf
    rw [e38] at this
    simpa using this.right.left
  have hsemi : l[i + 1 + xl]? = some 59 := by
    have := hf
    rw [e38] at this
    have := this.right.right.at_ (j := 0) rfl
    simpa [hxl] using this
  have Own := hide own
  have Hf := hide hf
  have Hfx := hide hfx
  have Hsemi := hide hsemi
  have Hx := hide hx
  have Hxl := hide hxl
  have Hm := hide hm
  have Ht := hide ht
  have Hp := hide hp
  have Map := hide map
  have Bt := hide bt
  obtain ⟨x0, hx0⟩ : ∃ d, x[0]? = some d := ⟨_, List.getElem?_eq_getElem (by omega)⟩
  have hc0 := own.cellI (hfx.at_ hx0)
  have hs0 := hx x0 (List.mem_of_getElem? hx0)
  have hne0 : ((x0.toNat : Int) == 35) = false := by rw [beq_eq_false_iff_ne]; have := hs0.1; omega
  obtain ⟨J, hJ⟩ : ∃ J, i + 1 = J := ⟨_, rfl⟩
  rw [hJ] at hc0
  have hJI : (i : Int) + 1 = (J : Int) := by omega
  have hJn : (J : Int) < (n : Int) := by omega
  clear own hf hfx hsemi hx hxl hm ht hp map bt hx0 hs0 e38
  go_enter Tryd.func23, Tryd.ntmps23
  go_wp2
  clear hc0 hne0
  go_loopg [11] xl (fun gk jv wr => ∃ q : Nat, xl - q ≤ gk ∧ q ≤ xl ∧ jv = .int .i64 ((J + q : Nat) : Int) ∧ w = wr)
  case atStart => exact ⟨0, by omega, Nat.zero_le _, by first | rfl | go_num, rfl⟩
  case round =>
    obtain ⟨q, hgk, hq, rfl, rfl⟩ := hrel
    obtain ⟨M, hM⟩ : ∃ M, J + q = M := ⟨_, rfl⟩
    rw [hM]
    have hMn : (M : Int) < (n : Int) := by omega
    have hMc : (M : Int) ≤ (c : Int) := by omega
    have hM31 : (M : Int) - (i : Int) - 1 ≤ 31 := by omega
    have wr1 : IntKind.i64.wrap ((M : Int) - (i : Int)) = (M : Int) - (i : Int) := IntWalk.i64_in _ (by omega)
    have wr2 : IntKind.i64.wrap ((M : Int) - (i : Int) - 1) = (M : Int) - (i : Int) - 1 := IntWalk.i64_in _ (by omega)
    by_cases hqx : q < xl
    · obtain ⟨d, hd⟩ : ∃ d, x[q]? = some d := ⟨_, List.getElem?_eq_getElem (by have := Hxl.out; omega)⟩
      have cell1 := Own.out.cellI (Hfx.out.at_ hd)
      rw [hJ, hM] at cell1
      obtain ⟨h97, h122⟩ := Hx.out d (List.mem_of_getElem? hd)
      have h59 : ((d.toNat : Int) != 59) = true := by rw [bne_iff_ne]; omega
      have h48 : 48 ≤ d.toNat := by omega
      have h57 : ¬ d.toNat ≤ 57 := by omega
      clear hd
      go_wp2
      go_roundg (xl - (q + 1))
      case rel => exact ⟨q + 1, Nat.le_refl _, by omega, by go_num, rfl⟩
      case measure => omega
    · obtain rfl : q = xl := by omega
      have cell1 := Own.out.cellI Hsemi.out
      rw [hJ, hM] at cell1
      have hMJ : ((M : Int) == (J : Int)) = false := by rw [beq_eq_false_iff_ne]; omega
      obtain ⟨X, hcut, hbx⟩ := run_cutA (P := Tryd.prog) 26 Tryd.underlying26 (by kernel_rfl) Own.out.bs n c J M (J : Int) (M : Int) rfl rfl hlen (by omega) (by omega) hnc
      have hxx : (l.drop J).take (M - J) = x := by
        have := Hfx.out.cut
        rw [hJ, Hxl.out] at this
        rw [show M - J = q by omega]
        exact this
      rw [hxx] at hbx
      have hMq : M - J = q := by omega
      rw [hMq] at hcut
      have kx := run_str (P := Tryd.prog) hbx (c - J) 26 9 5 Tryd.underlying26 Tryd.underlying5 Tryd.underlying9
      rw [Hxl.out] at kx
      have hlook := Map.out.look Hp.out (by show x.length ≤ _; have := Hxl.out; omega)
      have Hcut := hide hcut
      have Hlook := hide hlook
      obtain ⟨n', hn'⟩ : ∃ n', n' + (M + 1) = n + (i + m) := ⟨n + (i + m) - (M + 1), by omega⟩
      obtain ⟨w2, run1, own2, g2⟩ := Own.out.copy_in Bt.out i (n - i) (c - i) rc m m Hm.out (by omega) (by omega) rfl
      have hfl2 : i + (38 :: (x ++ [59])).length = M + 1 := by rw [hfl]; omega
      have hsw := Hf.out.swap Hm.out (by rw [hfl]; omega)
      rw [hfl2] at hsw
      have hl2 := own2.len
      obtain ⟨l2, hl2e⟩ : ∃ l2, l.take i ++ t ++ l.drop (i + m) = l2 := ⟨_, rfl⟩
      rw [hl2e] at own2 hsw hl2
      have hd2 : (l2.drop (M + 1)).length = n - (M + 1) := by rw [List.length_drop, hl2]
      have hs1 := fun w => run_loE (P := Tryd.prog) 26 Tryd.underlying26 (by kernel_rfl) g n c i (i : Int) rfl (by omega) (by omega) hnc .i64 w
      have hh := run_hi8 (P := Tryd.prog) (A := some ⟨g, 0, none⟩) 26 Tryd.underlying26 (by kernel_rfl) n c n' ((n : Int) - ((M : Int) + 1 - (i : Int)) + (m : Int)) (by omega) (by omega) .i64
      have Hs1 := hide hs1
      have Hh := hide hh
      have Run1 := hide run1
      have hres : (l2.take (i + m) ++ l2.drop (M + 1) ++ l2.drop (i + m + (n - (M + 1)))).take n' = l.take i ++ t ++ l.drop (M + 1) := by
        rw [← hsw, List.take_append_of_le_length (by rw [List.length_append, List.length_take, hd2]; omega), List.take_of_length_le (by rw [List.length_append, List.length_take, hd2]; omega)]
      have Hfin : Hid (∀ w3, OwnB w3 base (some ⟨g, 0, none⟩) n c (l2.take (i + m) ++ l2.drop (M + 1) ++ l2.drop (i + m + (n - (M + 1)))) → OwnB w3 base (some ⟨g, 0, none⟩) n' c (l.take i ++ t ++ l.drop (i + (38 :: (x ++ [59])).length))) := hide (fun w3 h => by
        rw [hfl2, ← hres]
        exact h.take (by omega))
      have Hn' : Hid (n' + (38 :: (x ++ [59])).length = n + t.length) := hide (by rw [hfl, Hm.out]; omega)
      have s1 : IntKind.i64.wrap ((i : Int) + (m : Int)) = (i : Int) + (m : Int) := IntWalk.i64_in _ (by omega)
      have s2 : IntKind.i64.wrap ((M : Int) + 1) = (M : Int) + 1 := IntWalk.i64_in _ (by omega)
      have s3 : IntKind.i64.wrap ((M : Int) + 1 - (i : Int)) = (M : Int) + 1 - (i : Int) := IntWalk.i64_in _ (by omega)
      have s4 : (2 : Int) < (M : Int) + 1 - (i : Int) := by omega
      have S := hide (And.intro s1 s2)
      have hr54 : ((i : Int) + (m : Int) - 1) = ((i + t.length - 1 : Nat) : Int) := by rw [Hm.out]; omega
      have Hr54 := hide hr54
      clear hcut hlook hbx hxx hMq hM31 wr1 wr2 hs1 hh hres s1 s2 hr54 hsw
      by_cases hE : c = M + 1
      · have hcn : n = c := by omega
        subst hcn
        have hMI : (M : Int) + 1 = (n : Int) := by omega
        have hde : l2.drop (M + 1) = [] := List.drop_of_length_le (by omega)
        obtain ⟨w3, run2, own3, g3⟩ := OwnB.copy_in (m := []) (own2.drew) (BS.nil w2.drew (some ⟨g, 0, none⟩)) (i + m) (n - (i + m)) (n - (i + m)) 0 0 0 rfl (by omega) (by omega) rfl
        rw [← hde, show i + m + 0 = i + m + (n - (M + 1)) by omega] at own3
        have Run2 := hide run2
        have hh2 := run_hi8 (P := Tryd.prog) (A := some ⟨g, 0, none⟩) 26 Tryd.underlying26 (by kernel_rfl) n n n' ((i : Int) + (m : Int)) (by omega) (by omega) .i64
        have Hh2 := hide hh2
        clear hh2
        have Own3 := hide (Hfin.out _ own3)
        have hg3 : w.grownBy w3 (some g) := World.grownBy.trans (b := w2.drew) ⟨g2.os, g2.tape, g2.output, g2.size, g2.block⟩ g3
        have G3 := hide hg3
        clear run2 own3 g3 own2 g2 hg3 hd2 hl2 hl2e hde hE
        obtain ⟨t0, ht0⟩ : ∃ d, t[0]? = some d := ⟨_, List.getElem?_eq_getElem (by have := Hm.out; omega)⟩
        obtain ⟨rb, ro, rfl, cr⟩ := Bt.out.at_ ht0
        rw [Nat.add_zero] at cr
        have Hlk := hide (look_no w t0)
        have han := Ht.out t0 (List.mem_of_getElem? ht0)
        have h38 : ((t0.toNat : Int) == 38) = false := by rw [beq_eq_false_iff_ne]; unfold isAn at han; omega
        have h0m : (0 : Int) < (m : Int) := by omega
        clear han ht0
        cases hm1 : ((m : Int) == 1)
        all_goals go_wp2_with (first
            | ((with_reducible refine wpList_slice_runO (Hcut.out .i64 .i64 _) _ _ _ ?_ rfl ?_ ?_ ?_ ?_); (rfl); (rfl); (rfl); (rfl))
            | ((with_reducible refine wpList_slice_runO (Hs1.out _) _ _ _ ?_ rfl ?_ ?_ ?_ ?_); (rfl); (rfl); (rfl); (rfl))
            | ((with_reducible refine wpList_lookup_runC Hlook.out _ _ ?_ rfl ?_ ?_ ?_); (rfl); (rfl); (rfl))
            | ((with_reducible refine wpList_lookup_runC Hlk.out _ _ ?_ rfl ?_ ?_ ?_); (rfl); (rfl); (rfl)))
        all_goals
          clear run1 hm1 h38 cr
          obtain ⟨s1, s2⟩ := S.out
          have t1 : 0 ≤ (i : Int) + (m : Int) := by omega
          have t2 : IntKind.i64.wrap (n : Int) = (n : Int) := IntWalk.i64_in _ (by omega)
          have t3 : ((i : Int) + (m : Int)).toNat = i + m := by omega
          have t5 : ¬ n = i + m := by omega
          have t6 : (i : Int) + (m : Int) ≤ (n : Int) := by omega
          have s5 : IntKind.i64.wrap ((n : Int) - ((n : Int) - (i : Int))) = (n : Int) - ((n : Int) - (i : Int)) := IntWalk.i64_in _ (by omega)
          have s6 : IntKind.i64.wrap ((n : Int) - ((n : Int) - (i : Int)) + (m : Int)) = (n : Int) - ((n : Int) - (i : Int)) + (m : Int) := IntWalk.i64_in _ (by omega)
          have s7 : IntKind.i64.wrap ((i : Int) + (m : Int) - 1) = (i : Int) + (m : Int) - 1 := IntWalk.i64_in _ (by omega)
          go_region_law ((with_reducible refine step_copy_runG Run2.out _ _ ?_ rfl rfl ?_ ?_ ?_); (rfl); (simp [Act.eval, Act.put]); (simp [Act.eval, Act.put]))
          go_wp2_with (first | ((with_reducible refine wpList_slice_runO (Hh.out _) _ _ _ ?_ rfl ?_ ?_ ?_ ?_); (rfl); (rfl); (rfl); (rfl)) | ((with_reducible refine wpList_slice_runO (Hh2.out _) _ _ _ ?_ rfl ?_ ?_ ?_ ?_); (rfl); (rfl); (rfl); (rfl)))
          go_ret2
          exact ⟨n', Hn'.out, by rw [Hr54.out, show n - (n - i) + m = n' by omega]; rfl, Own3.out, G3.out⟩
      · obtain ⟨w3, run2, own3, g3⟩ := OwnB.copy_in (own2.drew) ((own2.partD (M + 1)).drew) (i + m) (n - (i + m)) (c - (i + m)) (c - (M + 1)) (n - (M + 1)) (n - (M + 1)) hd2 (by omega) (by omega) rfl
        have Run2 := hide run2
        have Own3 := hide (Hfin.out _ own3)
        have hg3 : w.grownBy w3 (some g) := World.grownBy.trans (b := w2.drew) ⟨g2.os, g2.tape, g2.output, g2.size, g2.block⟩ g3
        have G3 := hide hg3
        clear run2 own3 g3 own2 g2 hg3 hd2 hl2 hl2e
        obtain ⟨t0, ht0⟩ : ∃ d, t[0]? = some d := ⟨_, List.getElem?_eq_getElem (by have := Hm.out; omega)⟩
        obtain ⟨rb, ro, rfl, cr⟩ := Bt.out.at_ ht0
        rw [Nat.add_zero] at cr
        have Hlk := hide (look_no w t0)
        have han := Ht.out t0 (List.mem_of_getElem? ht0)
        have h38 : ((t0.toNat : Int) == 38) = false := by rw [beq_eq_false_iff_ne]; unfold isAn at han; omega
        have h0m : (0 : Int) < (m : Int) := by omega
        clear han ht0
        cases hm1 : ((m : Int) == 1)
        all_goals go_wp2_with (first
            | ((with_reducible refine wpList_slice_runO (Hcut.out .i64 .i64 _) _ _ _ ?_ rfl ?_ ?_ ?_ ?_); (rfl); (rfl); (rfl); (rfl))
            | ((with_reducible refine wpList_slice_runO (Hs1.out _) _ _ _ ?_ rfl ?_ ?_ ?_ ?_); (rfl); (rfl); (rfl); (rfl))
            | ((with_reducible refine wpList_lookup_runC Hlook.out _ _ ?_ rfl ?_ ?_ ?_); (rfl); (rfl); (rfl))
            | ((with_reducible refine wpList_lookup_runC Hlk.out _ _ ?_ rfl ?_ ?_ ?_); (rfl); (rfl); (rfl)))
        all_goals
          clear run1 hm1 h38 cr
          obtain ⟨s1, s2⟩ := S.out
          have t1 : 0 ≤ (i : Int) + (m : Int) := by omega
          have t2 : 0 ≤ (M : Int) + 1 := by omega
          have t3 : ((i : Int) + (m : Int)).toNat = i + m := by omega
          have t4 : ((M : Int) + 1).toNat = M + 1 := by omega
          have t5 : ¬ c = i + m := by omega
          have t6 : (i : Int) + (m : Int) ≤ (n : Int) := by omega
          have t7 : (M : Int) + 1 ≤ (n : Int) := by omega
          have s5 : IntKind.i64.wrap ((n : Int) - ((M : Int) + 1 - (i : Int))) = (n : Int) - ((M : Int) + 1 - (i : Int)) := IntWalk.i64_in _ (by omega)
          have s6 : IntKind.i64.wrap ((n : Int) - ((M : Int) + 1 - (i : Int)) + (m : Int)) = (n : Int) - ((M : Int) + 1 - (i : Int)) + (m : Int) := IntWalk.i64_in _ (by omega)
          have s7 : IntKind.i64.wrap ((i : Int) + (m : Int) - 1) = (i : Int) + (m : Int) - 1 := IntWalk.i64_in _ (by omega)
          go_region_law ((with_reducible refine step_copy_runG Run2.out _ _ ?_ rfl rfl ?_ ?_ ?_); (rfl); (simp [Act.eval, Act.put]); (simp [Act.eval, Act.put]))
          go_wp2_with ((with_reducible refine wpList_slice_runO (Hh.out _) _ _ _ ?_ rfl ?_ ?_ ?_ ?_); (rfl); (rfl); (rfl); (rfl))
          go_ret2
          exact ⟨n', Hn'.out, by rw [Hr54.out]; rfl, Own3.out, G3.out⟩
end Go.Proofs.YtnepjlfkbmindaaDoor
