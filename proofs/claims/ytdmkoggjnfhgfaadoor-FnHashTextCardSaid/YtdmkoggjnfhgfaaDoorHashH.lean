/- The numbers of texts, and the texts of numbers: what the package's functions of html return. Conditions: the table's cells; the text is shorter than 2^31. -/
import Derived.Test.YtdmkoggjnfhgfaaDoorHashP
namespace Go.Proofs.YtdmkoggjnfhgfaaDoor
open Go.RowKit
set_option linter.unusedVariables false

theorem htmlT_len : htmlT.length = 46 := by decide +kernel
theorem html_fit (h : Nat) : slot htmlTab h < 65536 ∧ slot htmlTab h / 256 + slot htmlTab h % 256 ≤ 46 := by
  rcases slot_mem htmlTab h with e | e
  · rw [e]; decide
  · have : htmlTab.all (fun e => e < 65536 && e / 256 + e % 256 ≤ 46) = true := by decide +kernel
    have := List.all_eq_true.1 this _ e
    simpa using this
/-- The cells of the table. -/
def Tabhtml (w : World) : Prop := HTab 1 htmlTab w
theorem htmlText_any (w : World) :
    Calls Tryd.prog 14 #[] w fun e w' => e = .returned (.slice (some ⟨w.heap.size, 0, none⟩) 46 46) ∧ BS w' (some ⟨w.heap.size, 0, none⟩) htmlT ∧ Below w.heap.size w w' := by
  have kc := fun n c C => run_bytes_lit (P := Tryd.prog) 22 5 Tryd.underlying22 Tryd.underlying5 w w.heap.size n c C rfl
  go_enter Tryd.func14, Tryd.ntmps14
  go_wp2
  go_ret
  exact ⟨rfl, BS.lit rfl htmlT _ _ _ (by kernel_rfl), (Below.refl _ _).alloc (Nat.le_refl _) _⟩

set_option maxHeartbeats 1000000 in
theorem htmlHash_short (A : Option Addr) (s : List UInt8) (c : Nat) (w : World) (hs : BS w A s) (h1 : s.length ≤ 2147483647) (h : s.length = 0 ∨ 9 < s.length) :
    Calls Tryd.prog 10 #[.slice A s.length c] w fun e w' => e = .returned (.int .u32 0) ∧ w = w' := by
  rcases h with h | h
  · obtain rfl : s = [] := List.eq_nil_of_length_eq_zero h
    go_enter Tryd.func10, Tryd.ntmps10
    go_wp2
    go_step3
    go_wp2
    try rw [Exit.noGoto_ret]
    go_ret
    exact ⟨rfl, rfl⟩
  · have h0 : ((s.length : Int) == 0) = false := by rw [beq_eq_false_iff_ne]; omega
    go_enter Tryd.func10, Tryd.ntmps10
    go_wp2
    go_step3
    go_wp2
    try rw [Exit.noGoto_ret]
    go_ret
    exact ⟨rfl, rfl⟩
set_option maxRecDepth 100000 in
set_option maxHeartbeats 2000000 in
theorem htmlHash_B (A : Option Addr) (s : List UInt8) (c n : Nat) (w : World) (H : Int) (e1 n1 s1 i1 : Nat) (hH : hashB 3031929011 s = H) (hb0 : 0 ≤ H) (hb1 : H < 4294967296) (hn : s.length = n) (hs : BS w A s) (h0 : 0 < n) (h9 : n ≤ 9) (ht : Tabhtml w)
    (I1 : bits .and .u32 H 15 = (i1 : Int)) (cell1 : w.cell? ⟨1, i1, none⟩ = some (.int .u32 (e1 : Int))) (hfit1 : s1 + n1 ≤ 46) (hn256_1 : n1 ≤ 255) (hie1 : i1 < 16) (F1 : bits .and .u32 (e1 : Int) 255 = (n1 : Int)) (Q1 : (e1 : Int) / 256 = (s1 : Int))
    (He1 : Hid (slot htmlTab H.toNat = e1)) (Hel1 : Hid ((ent htmlT e1).length = n1)) (Hcut1 : Hid ((htmlT.drop s1).take (s1 + n1 - s1) = ent htmlT e1)) (hq1 : n = n1) (Hm1 : Hid (ent htmlT e1 = s)) :
    Calls Tryd.prog 10 #[.slice A n c] w (HashRet htmlT htmlTab 3031929011 s w) := by
  have hz : ((n : Int) == 0) = false := by rw [beq_eq_false_iff_ne]; omega
  have Hn := hide hn
  have Ht := hide ht
  have HH := hide hH
  have Hs := hide hs
  clear hn ht hH hs
  subst hq1
  go_enter Tryd.func10, Tryd.ntmps10
  go_wp2
  go_step3
  go_wp2
  go_loop [3, 4] (fun h i => ∃ k : Nat, k ≤ n ∧ i = .int .i64 k ∧ h = .int .u32 (hashB 3031929011 (s.take k))) (fun _ i => n - (intOf i).toNat)
  case atStart => exact ⟨0, Nat.zero_le _, rfl, rfl⟩
  case round =>
    obtain ⟨k, hk, rfl, rfl⟩ := hrel
    by_cases hlt : k < n
    · obtain ⟨d, hd⟩ : ∃ d, s[k]? = some d := ⟨_, List.getElem?_eq_getElem (by have := Hn.out; omega)⟩
      obtain ⟨b, o, rfl, cell⟩ := Hs.out.at_ hd
      have Hst := hide (hashB_take 3031929011 hd)
      have hd256 := d.toNat_lt
      have hb := hashB_bd (s.take k) (h0 := 3031929011) (by decide)
      obtain ⟨hb2, hb3⟩ := hb
      obtain ⟨X, hX⟩ : ∃ X, hashB 3031929011 (s.take k) = X := ⟨_, rfl⟩
      rw [hX] at Hst hb2 hb3 ⊢
      clear hd hX I1 F1 Q1 cell1
      go_wp2
      go_round
      case rel => exact ⟨k + 1, by omega, by go_num, by rw [Hst.out]; first | rfl | (unfold hstep; rw [IntKind.wrap_u32])⟩
      case measure => simp [intOf]; omega
    · obtain rfl : n = k := by omega
      rw [List.take_of_length_le (Nat.le_of_eq Hn.out), HH.out]
      go_wp2_with (first
        | (go_at_call 14; (with_reducible refine (htmlText_any _).mono ?_); rintro e wt1 ⟨rfl, hbT1, hB1⟩; obtain ⟨A1, hr1, hb1'⟩ := run_cutA (P := Tryd.prog) 22 Tryd.underlying22 (by kernel_rfl) hbT1 46 46 s1 (s1 + n) (s1 : Int) ((s1 : Int) + (n : Int)) rfl (by omega) htmlT_len (by omega) (by omega) (Nat.le_refl _); rw [Hcut1.out] at hb1'; have Hr1 := hide hr1; have Hb1' := hide hb1'; clear hr1 hb1' hbT1)
        | ((with_reducible refine wpList_slice_runO (Hr1.out .u32 .u32 _) _ _ _ ?_ rfl ?_ ?_ ?_ ?_); (rfl); (rfl); (rfl); (rfl)))
      have Hs1' := hide (Hs.out.below hB1)
      go_loopw [7] (fun i wr => ∃ k q : Nat, k ≤ n ∧ i = .int .i64 k ∧ wr = wt1.drewN q) (fun i _ => n - (intOf i).toNat)
      case atStart => exact ⟨0, 0, Nat.zero_le _, rfl, rfl⟩
      case round =>
        obtain ⟨k, q, hk, rfl, rfl⟩ := hrel
        by_cases hlt : k < n
        · obtain ⟨x, hx⟩ : ∃ x, s[k]? = some x := ⟨_, List.getElem?_eq_getElem (by have := Hn.out; omega)⟩
          obtain ⟨b, o, rfl, cellS⟩ := Hs1'.out.at_ hx
          obtain ⟨b', o', rfl, cellT⟩ := Hb1'.out.at_ (by rw [Hm1.out]; exact hx)
          have hx256 := x.toNat_lt
          clear hx
          go_wp2
          go_quiet (fail)
          go_wp2
          go_roundw
          case rel => exact ⟨k + 1, _, by omega, by go_num, rfl⟩
          case measure => simp [intOf]; omega
        · go_wp2
          try rw [Exit.noGoto_ret]
          go_ret
          exact ⟨ret_int (congrArg Int.ofNat (fnd_1 Hn.out h0 h9 HH.out He1.out Hm1.out).symm), below_drewN hB1 _⟩

set_option maxRecDepth 100000 in
set_option maxHeartbeats 2000000 in
theorem htmlHash_C (A : Option Addr) (s : List UInt8) (c n : Nat) (w : World) (H : Int) (e1 n1 s1 i1 : Nat) (hH : hashB 3031929011 s = H) (hb0 : 0 ≤ H) (hb1 : H < 4294967296) (hn : s.length = n) (hs : BS w A s) (h0 : 0 < n) (h9 : n ≤ 9) (ht : Tabhtml w)
    (I1 : bits .and .u32 H 15 = (i1 : Int)) (cell1 : w.cell? ⟨1, i1, none⟩ = some (.int .u32 (e1 : Int))) (hfit1 : s1 + n1 ≤ 46) (hn256_1 : n1 ≤ 255) (hie1 : i1 < 16) (F1 : bits .and .u32 (e1 : Int) 255 = (n1 : Int)) (Q1 : (e1 : Int) / 256 = (s1 : Int))
    (He1 : Hid (slot htmlTab H.toNat = e1)) (Hel1 : Hid ((ent htmlT e1).length = n1)) (Hcut1 : Hid ((htmlT.drop s1).take (s1 + n1 - s1) = ent htmlT e1)) (hq1 : n = n1) (Hm1 : Hid (¬ ent htmlT e1 = s)) :
    Calls Tryd.prog 10 #[.slice A n c] w (HashRet htmlT htmlTab 3031929011 s w) := by
  have hz : ((n : Int) == 0) = false := by rw [beq_eq_false_iff_ne]; omega
  have Hn := hide hn
  have Ht := hide ht
  have HH := hide hH
  have Hs := hide hs
  clear hn ht hH hs
  subst hq1
  go_enter Tryd.func10, Tryd.ntmps10
  go_wp2
  refine wp_scope_jumps 0 (fun a' w' => Below w.heap.size w w' ∧ ∃ u : Nat → Value, a' = { tmps := #[Value.slice A n c, u 1, u 2, Value.int .u32 H, u 4, u 5, u 6, u 7, u 8, u 9, u 10, u 11, u 12, u 13, u 14, u 15, u 16, u 17, u 18, u 19, u 20, u 21, u 22, u 23, u 24, u 25, u 26, u 27, u 28, u 29, u 30, u 31, u 32, u 33, u 34, u 35, u 36, u 37, u 38, u 39, u 40, u 41, u 42, u 43, u 44, u 45, u 46, u 47, u 48, u 49, u 50, u 51, u 52, u 53, u 54, u 55, u 56, u 57, u 58, u 59, u 60, u 61, u 62, u 63, u 64, u 65, u 66, u 67, u 68, u 69, u 70, u 71, u 72, u 73, u 74, u 75, u 76, u 77, u 78, u 79, u 80, u 81, u 82, u 83, u 84, u 85, u 86, u 87, u 88, u 89, u 90, u 91, u 92, u 93, u 94, u 95, u 96, u 97, u 98, u 99, u 100, u 101, u 102, u 103, u 104], defers := [] }) (fun _ _ => 0) rfl ?_ ?_
  · go_wp2
    go_loop [3, 4] (fun h i => ∃ k : Nat, k ≤ n ∧ i = .int .i64 k ∧ h = .int .u32 (hashB 3031929011 (s.take k))) (fun _ i => n - (intOf i).toNat)
    case atStart => exact ⟨0, Nat.zero_le _, rfl, rfl⟩
    case round =>
      obtain ⟨k, hk, rfl, rfl⟩ := hrel
      by_cases hlt : k < n
      · obtain ⟨d, hd⟩ : ∃ d, s[k]? = some d := ⟨_, List.getElem?_eq_getElem (by have := Hn.out; omega)⟩
        obtain ⟨b, o, rfl, cell⟩ := Hs.out.at_ hd
        have Hst := hide (hashB_take 3031929011 hd)
        have hd256 := d.toNat_lt
        have hb := hashB_bd (s.take k) (h0 := 3031929011) (by decide)
        obtain ⟨hb2, hb3⟩ := hb
        obtain ⟨X, hX⟩ : ∃ X, hashB 3031929011 (s.take k) = X := ⟨_, rfl⟩
        rw [hX] at Hst hb2 hb3 ⊢
        clear hd hX I1 F1 Q1 cell1
        go_wp2
        go_round
        case rel => exact ⟨k + 1, by omega, by go_num, by rw [Hst.out]; first | rfl | (unfold hstep; rw [IntKind.wrap_u32])⟩
        case measure => simp [intOf]; omega
      · obtain rfl : n = k := by omega
        rw [List.take_of_length_le (Nat.le_of_eq Hn.out), HH.out]
        obtain ⟨k0, x0, y0, hk0, hx0, hy0, hxy, hpre⟩ := diff_at Hel1.out Hn.out Hm1.out
        have Hx0 := hide hx0
        have Hy0 := hide hy0
        have Hxy := hide hxy
        have Hpre := hide hpre
        clear hx0 hy0 hxy hpre
        go_wp2_with (first
          | (go_at_call 14; (with_reducible refine (htmlText_any _).mono ?_); rintro e wt1 ⟨rfl, hbT1, hB1⟩; obtain ⟨A1, hr1, hb1'⟩ := run_cutA (P := Tryd.prog) 22 Tryd.underlying22 (by kernel_rfl) hbT1 46 46 s1 (s1 + n) (s1 : Int) ((s1 : Int) + (n : Int)) rfl (by omega) htmlT_len (by omega) (by omega) (Nat.le_refl _); rw [Hcut1.out] at hb1'; have Hr1 := hide hr1; have Hb1' := hide hb1'; clear hr1 hb1' hbT1)
          | ((with_reducible refine wpList_slice_runO (Hr1.out .u32 .u32 _) _ _ _ ?_ rfl ?_ ?_ ?_ ?_); (rfl); (rfl); (rfl); (rfl)))
        have Hs1' := hide (Hs.out.below hB1)
        go_loopw [7] (fun i wr => ∃ k q : Nat, k ≤ k0 ∧ i = .int .i64 k ∧ wr = wt1.drewN q) (fun i _ => n - (intOf i).toNat)
        case atStart => exact ⟨0, 0, Nat.zero_le _, rfl, rfl⟩
        case round =>
          obtain ⟨k, q, hk, rfl, rfl⟩ := hrel
          have hlt : k < n := by omega
          by_cases hkk : k < k0
          · obtain ⟨x, hx⟩ : ∃ x, s[k]? = some x := ⟨_, List.getElem?_eq_getElem (by have := Hn.out; omega)⟩
            obtain ⟨b, o, rfl, cellS⟩ := Hs1'.out.at_ hx
            obtain ⟨b', o', rfl, cellT⟩ := Hb1'.out.at_ ((Hpre.out k hkk).trans hx)
            have hx256 := x.toNat_lt
            clear hx
            go_wp2
            go_quiet (fail)
            go_wp2
            go_roundw
            case rel => exact ⟨k + 1, _, by omega, by go_num, rfl⟩
            case measure => simp [intOf]; omega
          · obtain rfl : k = k0 := by omega
            obtain ⟨b, o, rfl, cellS⟩ := Hs1'.out.at_ Hy0.out
            obtain ⟨b', o', rfl, cellT⟩ := Hb1'.out.at_ Hx0.out
            have hx256 := x0.toNat_lt
            have hy256 := y0.toNat_lt
            have hne : ((x0.toNat : Int) != (y0.toNat : Int)) = true := by rw [bne_iff_ne]; exact fun h => Hxy.out (UInt8.toNat_inj.1 (by omega))
            go_wp2
            go_quiet (fail)
            go_wp2
            go_step3
            exact ⟨rfl, below_drewN (below_drewN hB1 _) _, fr_ex _ _ rfl⟩
  · rintro a' w' ⟨hB1, u, rfl⟩
    have Ht2 := hide (HTab.below Ht.out hB1)
    have Hsw := hide (Hs.out.below hB1)
    clear I1 F1 Q1 cell1
    obtain ⟨i2, hi2⟩ : ∃ i : Nat, H / 65536 % 16 = (i : Int) := Int.eq_ofNat_of_zero_le (by omega)
    have I2 : bits .and .u32 (H / 65536) 15 = (i2 : Int) := by
      have := mask32 (H / 65536) 4 (by omega) (by omega) (by omega)
      rw [show (2 : Int) ^ 4 - 1 = 15 by decide, show (2 : Int) ^ 4 = 16 by decide] at this
      rw [this]; exact hi2
    have cell2 := HTab.slot Ht2.out (by decide) (H.toNat / 65536) i2 (by show _ % 16 = _; omega)
    have hf2 := html_fit (H.toNat / 65536)
    obtain ⟨e2, he2⟩ : ∃ e, slot htmlTab (H.toNat / 65536) = e := ⟨_, rfl⟩
    rw [he2] at cell2 hf2
    obtain ⟨n2, hn2⟩ : ∃ x, e2 % 256 = x := ⟨_, rfl⟩
    obtain ⟨s2, hs2⟩ : ∃ x, e2 / 256 = x := ⟨_, rfl⟩
    have hfit2 : s2 + n2 ≤ 46 := by omega
    have hn256_2 : n2 ≤ 255 := by omega
    have hie2 : i2 < 16 := by omega
    have hel2 : (ent htmlT e2).length = n2 := by unfold ent; rw [hn2, hs2]; simp [htmlT_len]; omega
    have hcut2 : (htmlT.drop s2).take (s2 + n2 - s2) = ent htmlT e2 := by unfold ent; rw [hn2, hs2, Nat.add_sub_cancel_left]
    have F2 : bits .and .u32 (e2 : Int) 255 = (n2 : Int) := by
      have := mask32 (e2 : Int) 8 (by omega) (by omega) (by omega)
      rw [show (2 : Int) ^ 8 - 1 = 255 by decide, show (2 : Int) ^ 8 = 256 by decide] at this
      rw [this]; omega
    have Q2 : (e2 : Int) / 256 = (s2 : Int) := by omega
    have He2 := hide he2
    have Hel2 := hide hel2
    have Hcut2 := hide hcut2
    clear he2 hi2 hf2 hn2 hs2 hel2 hcut2
    by_cases hq2 : n = n2
    · subst hq2
      by_cases hm2 : ent htmlT e2 = s
      · have Hm2 := hide hm2
        clear hm2
        go_wp2_with (first
          | (go_at_call 14; (with_reducible refine (htmlText_any _).mono ?_); rintro e wt2 ⟨rfl, hbT2, hB2⟩; obtain ⟨A2, hr2, hb2'⟩ := run_cutA (P := Tryd.prog) 22 Tryd.underlying22 (by kernel_rfl) hbT2 46 46 s2 (s2 + n) (s2 : Int) ((s2 : Int) + (n : Int)) rfl (by omega) htmlT_len (by omega) (by omega) (Nat.le_refl _); rw [Hcut2.out] at hb2'; have Hr2 := hide hr2; have Hb2' := hide hb2'; clear hr2 hb2' hbT2)
          | ((with_reducible refine wpList_slice_runO (Hr2.out .u32 .u32 _) _ _ _ ?_ rfl ?_ ?_ ?_ ?_); (rfl); (rfl); (rfl); (rfl)))
        have Hs2' := hide (Hsw.out.below hB2)
        go_loopw [10] (fun i wr => ∃ k q : Nat, k ≤ n ∧ i = .int .i64 k ∧ wr = wt2.drewN q) (fun i _ => n - (intOf i).toNat)
        case atStart => exact ⟨0, 0, Nat.zero_le _, rfl, rfl⟩
        case round =>
          obtain ⟨k, q, hk, rfl, rfl⟩ := hrel
          by_cases hlt : k < n
          · obtain ⟨x, hx⟩ : ∃ x, s[k]? = some x := ⟨_, List.getElem?_eq_getElem (by have := Hn.out; omega)⟩
            obtain ⟨b, o, rfl, cellS⟩ := Hs2'.out.at_ hx
            obtain ⟨b', o', rfl, cellT⟩ := Hb2'.out.at_ (by rw [Hm2.out]; exact hx)
            have hx256 := x.toNat_lt
            clear hx
            go_wp2
            go_quiet (fail)
            go_wp2
            go_roundw
            case rel => exact ⟨k + 1, _, by omega, by go_num, rfl⟩
            case measure => simp [intOf]; omega
          · go_wp2
            simp only [Exit.jump]
            go_ret
            exact ⟨ret_int (congrArg Int.ofNat (fnd_2 Hn.out h0 h9 HH.out He1.out Hm1.out He2.out Hm2.out).symm), hB1.trans ((below_drewN hB2 _).mono hB1.size)⟩
      · have Hm2 := hide hm2
        clear hm2
        obtain ⟨k0, x0, y0, hk0, hx0, hy0, hxy, hpre⟩ := diff_at Hel2.out Hn.out Hm2.out
        have Hx0 := hide hx0
        have Hy0 := hide hy0
        have Hxy := hide hxy
        have Hpre := hide hpre
        clear hx0 hy0 hxy hpre
        go_wp2_with (first
          | (go_at_call 14; (with_reducible refine (htmlText_any _).mono ?_); rintro e wt2 ⟨rfl, hbT2, hB2⟩; obtain ⟨A2, hr2, hb2'⟩ := run_cutA (P := Tryd.prog) 22 Tryd.underlying22 (by kernel_rfl) hbT2 46 46 s2 (s2 + n) (s2 : Int) ((s2 : Int) + (n : Int)) rfl (by omega) htmlT_len (by omega) (by omega) (Nat.le_refl _); rw [Hcut2.out] at hb2'; have Hr2 := hide hr2; have Hb2' := hide hb2'; clear hr2 hb2' hbT2)
          | ((with_reducible refine wpList_slice_runO (Hr2.out .u32 .u32 _) _ _ _ ?_ rfl ?_ ?_ ?_ ?_); (rfl); (rfl); (rfl); (rfl)))
        have Hs2' := hide (Hsw.out.below hB2)
        go_loopw [10] (fun i wr => ∃ k q : Nat, k ≤ k0 ∧ i = .int .i64 k ∧ wr = wt2.drewN q) (fun i _ => n - (intOf i).toNat)
        case atStart => exact ⟨0, 0, Nat.zero_le _, rfl, rfl⟩
        case round =>
          obtain ⟨k, q, hk, rfl, rfl⟩ := hrel
          have hlt : k < n := by omega
          by_cases hkk : k < k0
          · obtain ⟨x, hx⟩ : ∃ x, s[k]? = some x := ⟨_, List.getElem?_eq_getElem (by have := Hn.out; omega)⟩
            obtain ⟨b, o, rfl, cellS⟩ := Hs2'.out.at_ hx
            obtain ⟨b', o', rfl, cellT⟩ := Hb2'.out.at_ ((Hpre.out k hkk).trans hx)
            have hx256 := x.toNat_lt
            clear hx
            go_wp2
            go_quiet (fail)
            go_wp2
            go_roundw
            case rel => exact ⟨k + 1, _, by omega, by go_num, rfl⟩
            case measure => simp [intOf]; omega
          · obtain rfl : k = k0 := by omega
            obtain ⟨b, o, rfl, cellS⟩ := Hs2'.out.at_ Hy0.out
            obtain ⟨b', o', rfl, cellT⟩ := Hb2'.out.at_ Hx0.out
            have hx256 := x0.toNat_lt
            have hy256 := y0.toNat_lt
            have hne : ((x0.toNat : Int) != (y0.toNat : Int)) = true := by rw [bne_iff_ne]; exact fun h => Hxy.out (UInt8.toNat_inj.1 (by omega))
            go_wp2
            go_quiet (fail)
            go_wp2
            simp only [Exit.jump]
            go_ret
            exact ⟨ret_int (congrArg Int.ofNat (fnd_0 Hn.out h0 h9 HH.out He1.out Hm1.out He2.out Hm2.out).symm), hB1.trans (Below.mono (by first | exact below_drewN hB2 _ | exact below_drewN (below_drewN hB2 _) _) hB1.size)⟩
    · have Hm2 : Hid (¬ ent htmlT e2 = s) := hide (fun e => hq2 (by rw [← Hel2.out, e]; exact Hn.out.symm))
      have hq3 : ((n2 : Int) == (n : Int)) = false := by rw [beq_eq_false_iff_ne]; omega
      go_wp2
      simp only [Exit.jump]
      go_ret
      exact ⟨ret_int (congrArg Int.ofNat (fnd_0 Hn.out h0 h9 HH.out He1.out Hm1.out He2.out Hm2.out).symm), hB1⟩

set_option maxRecDepth 100000 in
set_option maxHeartbeats 2000000 in
theorem htmlHash_A (A : Option Addr) (s : List UInt8) (c n : Nat) (w : World) (H : Int) (e1 n1 s1 i1 : Nat) (hH : hashB 3031929011 s = H) (hb0 : 0 ≤ H) (hb1 : H < 4294967296) (hn : s.length = n) (hs : BS w A s) (h0 : 0 < n) (h9 : n ≤ 9) (ht : Tabhtml w)
    (I1 : bits .and .u32 H 15 = (i1 : Int)) (cell1 : w.cell? ⟨1, i1, none⟩ = some (.int .u32 (e1 : Int))) (hfit1 : s1 + n1 ≤ 46) (hn256_1 : n1 ≤ 255) (hie1 : i1 < 16) (F1 : bits .and .u32 (e1 : Int) 255 = (n1 : Int)) (Q1 : (e1 : Int) / 256 = (s1 : Int))
    (He1 : Hid (slot htmlTab H.toNat = e1)) (Hel1 : Hid ((ent htmlT e1).length = n1)) (Hcut1 : Hid ((htmlT.drop s1).take (s1 + n1 - s1) = ent htmlT e1)) (hq1 : n ≠ n1) :
    Calls Tryd.prog 10 #[.slice A n c] w (HashRet htmlT htmlTab 3031929011 s w) := by
  have hz : ((n : Int) == 0) = false := by rw [beq_eq_false_iff_ne]; omega
  have Hn := hide hn
  have Ht := hide ht
  have HH := hide hH
  have Hs := hide hs
  clear hn ht hH hs
  have Hm1 : Hid (¬ ent htmlT e1 = s) := hide (fun e => hq1 (by rw [← Hel1.out, e]; exact Hn.out.symm))
  have hq3 : ((n1 : Int) == (n : Int)) = false := by rw [beq_eq_false_iff_ne]; omega
  go_enter Tryd.func10, Tryd.ntmps10
  go_wp2
  go_step3
  go_wp2
  go_loop [3, 4] (fun h i => ∃ k : Nat, k ≤ n ∧ i = .int .i64 k ∧ h = .int .u32 (hashB 3031929011 (s.take k))) (fun _ i => n - (intOf i).toNat)
  case atStart => exact ⟨0, Nat.zero_le _, rfl, rfl⟩
  case round =>
    obtain ⟨k, hk, rfl, rfl⟩ := hrel
    by_cases hlt : k < n
    · obtain ⟨d, hd⟩ : ∃ d, s[k]? = some d := ⟨_, List.getElem?_eq_getElem (by have := Hn.out; omega)⟩
      obtain ⟨b, o, rfl, cell⟩ := Hs.out.at_ hd
      have Hst := hide (hashB_take 3031929011 hd)
      have hd256 := d.toNat_lt
      have hb := hashB_bd (s.take k) (h0 := 3031929011) (by decide)
      obtain ⟨hb2, hb3⟩ := hb
      obtain ⟨X, hX⟩ : ∃ X, hashB 3031929011 (s.take k) = X := ⟨_, rfl⟩
      rw [hX] at Hst hb2 hb3 ⊢
      clear hd hX I1 F1 Q1 cell1
      go_wp2
      go_round
      case rel => exact ⟨k + 1, by omega, by go_num, by rw [Hst.out]; first | rfl | (unfold hstep; rw [IntKind.wrap_u32])⟩
      case measure => simp [intOf]; omega
    · obtain rfl : n = k := by omega
      rw [List.take_of_length_le (Nat.le_of_eq Hn.out), HH.out]
      go_wp2
      go_step3
      have hB1 := Below.refl w.heap.size w
      clear I1 F1 Q1 cell1 hq3
      obtain ⟨i2, hi2⟩ : ∃ i : Nat, H / 65536 % 16 = (i : Int) := Int.eq_ofNat_of_zero_le (by omega)
      have I2 : bits .and .u32 (H / 65536) 15 = (i2 : Int) := by
        have := mask32 (H / 65536) 4 (by omega) (by omega) (by omega)
        rw [show (2 : Int) ^ 4 - 1 = 15 by decide, show (2 : Int) ^ 4 = 16 by decide] at this
        rw [this]; exact hi2
      have cell2 := HTab.slot Ht.out (by decide) (H.toNat / 65536) i2 (by show _ % 16 = _; omega)
      have hf2 := html_fit (H.toNat / 65536)
      obtain ⟨e2, he2⟩ : ∃ e, slot htmlTab (H.toNat / 65536) = e := ⟨_, rfl⟩
      rw [he2] at cell2 hf2
      obtain ⟨n2, hn2⟩ : ∃ x, e2 % 256 = x := ⟨_, rfl⟩
      obtain ⟨s2, hs2⟩ : ∃ x, e2 / 256 = x := ⟨_, rfl⟩
      have hfit2 : s2 + n2 ≤ 46 := by omega
      have hn256_2 : n2 ≤ 255 := by omega
      have hie2 : i2 < 16 := by omega
      have hel2 : (ent htmlT e2).length = n2 := by unfold ent; rw [hn2, hs2]; simp [htmlT_len]; omega
      have hcut2 : (htmlT.drop s2).take (s2 + n2 - s2) = ent htmlT e2 := by unfold ent; rw [hn2, hs2, Nat.add_sub_cancel_left]
      have F2 : bits .and .u32 (e2 : Int) 255 = (n2 : Int) := by
        have := mask32 (e2 : Int) 8 (by omega) (by omega) (by omega)
        rw [show (2 : Int) ^ 8 - 1 = 255 by decide, show (2 : Int) ^ 8 = 256 by decide] at this
        rw [this]; omega
      have Q2 : (e2 : Int) / 256 = (s2 : Int) := by omega
      have He2 := hide he2
      have Hel2 := hide hel2
      have Hcut2 := hide hcut2
      clear he2 hi2 hf2 hn2 hs2 hel2 hcut2
      by_cases hq2 : n = n2
      · subst hq2
        by_cases hm2 : ent htmlT e2 = s
        · have Hm2 := hide hm2
          clear hm2
          go_wp2_with (first
            | (go_at_call 14; (with_reducible refine (htmlText_any _).mono ?_); rintro e wt2 ⟨rfl, hbT2, hB2⟩; obtain ⟨A2, hr2, hb2'⟩ := run_cutA (P := Tryd.prog) 22 Tryd.underlying22 (by kernel_rfl) hbT2 46 46 s2 (s2 + n) (s2 : Int) ((s2 : Int) + (n : Int)) rfl (by omega) htmlT_len (by omega) (by omega) (Nat.le_refl _); rw [Hcut2.out] at hb2'; have Hr2 := hide hr2; have Hb2' := hide hb2'; clear hr2 hb2' hbT2)
            | ((with_reducible refine wpList_slice_runO (Hr2.out .u32 .u32 _) _ _ _ ?_ rfl ?_ ?_ ?_ ?_); (rfl); (rfl); (rfl); (rfl)))
          have Hs2' := hide (Hs.out.below hB2)
          go_loopw [10] (fun i wr => ∃ k q : Nat, k ≤ n ∧ i = .int .i64 k ∧ wr = wt2.drewN q) (fun i _ => n - (intOf i).toNat)
          case atStart => exact ⟨0, 0, Nat.zero_le _, rfl, rfl⟩
          case round =>
            obtain ⟨k, q, hk, rfl, rfl⟩ := hrel
            by_cases hlt : k < n
            · obtain ⟨x, hx⟩ : ∃ x, s[k]? = some x := ⟨_, List.getElem?_eq_getElem (by have := Hn.out; omega)⟩
              obtain ⟨b, o, rfl, cellS⟩ := Hs2'.out.at_ hx
              obtain ⟨b', o', rfl, cellT⟩ := Hb2'.out.at_ (by rw [Hm2.out]; exact hx)
              have hx256 := x.toNat_lt
              clear hx
              go_wp2
              go_quiet (fail)
              go_wp2
              go_roundw
              case rel => exact ⟨k + 1, _, by omega, by go_num, rfl⟩
              case measure => simp [intOf]; omega
            · go_wp2
              try rw [Exit.noGoto_ret]
              go_ret
              exact ⟨ret_int (congrArg Int.ofNat (fnd_2 Hn.out h0 h9 HH.out He1.out Hm1.out He2.out Hm2.out).symm), hB1.trans ((below_drewN hB2 _).mono hB1.size)⟩
        · have Hm2 := hide hm2
          clear hm2
          obtain ⟨k0, x0, y0, hk0, hx0, hy0, hxy, hpre⟩ := diff_at Hel2.out Hn.out Hm2.out
          have Hx0 := hide hx0
          have Hy0 := hide hy0
          have Hxy := hide hxy
          have Hpre := hide hpre
          clear hx0 hy0 hxy hpre
          go_wp2_with (first
            | (go_at_call 14; (with_reducible refine (htmlText_any _).mono ?_); rintro e wt2 ⟨rfl, hbT2, hB2⟩; obtain ⟨A2, hr2, hb2'⟩ := run_cutA (P := Tryd.prog) 22 Tryd.underlying22 (by kernel_rfl) hbT2 46 46 s2 (s2 + n) (s2 : Int) ((s2 : Int) + (n : Int)) rfl (by omega) htmlT_len (by omega) (by omega) (Nat.le_refl _); rw [Hcut2.out] at hb2'; have Hr2 := hide hr2; have Hb2' := hide hb2'; clear hr2 hb2' hbT2)
            | ((with_reducible refine wpList_slice_runO (Hr2.out .u32 .u32 _) _ _ _ ?_ rfl ?_ ?_ ?_ ?_); (rfl); (rfl); (rfl); (rfl)))
          have Hs2' := hide (Hs.out.below hB2)
          go_loopw [10] (fun i wr => ∃ k q : Nat, k ≤ k0 ∧ i = .int .i64 k ∧ wr = wt2.drewN q) (fun i _ => n - (intOf i).toNat)
          case atStart => exact ⟨0, 0, Nat.zero_le _, rfl, rfl⟩
          case round =>
            obtain ⟨k, q, hk, rfl, rfl⟩ := hrel
            have hlt : k < n := by omega
            by_cases hkk : k < k0
            · obtain ⟨x, hx⟩ : ∃ x, s[k]? = some x := ⟨_, List.getElem?_eq_getElem (by have := Hn.out; omega)⟩
              obtain ⟨b, o, rfl, cellS⟩ := Hs2'.out.at_ hx
              obtain ⟨b', o', rfl, cellT⟩ := Hb2'.out.at_ ((Hpre.out k hkk).trans hx)
              have hx256 := x.toNat_lt
              clear hx
              go_wp2
              go_quiet (fail)
              go_wp2
              go_roundw
              case rel => exact ⟨k + 1, _, by omega, by go_num, rfl⟩
              case measure => simp [intOf]; omega
            · obtain rfl : k = k0 := by omega
              obtain ⟨b, o, rfl, cellS⟩ := Hs2'.out.at_ Hy0.out
              obtain ⟨b', o', rfl, cellT⟩ := Hb2'.out.at_ Hx0.out
              have hx256 := x0.toNat_lt
              have hy256 := y0.toNat_lt
              have hne : ((x0.toNat : Int) != (y0.toNat : Int)) = true := by rw [bne_iff_ne]; exact fun h => Hxy.out (UInt8.toNat_inj.1 (by omega))
              go_wp2
              go_quiet (fail)
              go_wp2
              try rw [Exit.noGoto_ret]
              go_ret
              exact ⟨ret_int (congrArg Int.ofNat (fnd_0 Hn.out h0 h9 HH.out He1.out Hm1.out He2.out Hm2.out).symm), hB1.trans (Below.mono (by first | exact below_drewN hB2 _ | exact below_drewN (below_drewN hB2 _) _) hB1.size)⟩
      · have Hm2 : Hid (¬ ent htmlT e2 = s) := hide (fun e => hq2 (by rw [← Hel2.out, e]; exact Hn.out.symm))
        have hq3 : ((n2 : Int) == (n : Int)) = false := by rw [beq_eq_false_iff_ne]; omega
        go_wp2
        try rw [Exit.noGoto_ret]
        go_ret
        exact ⟨ret_int (congrArg Int.ofNat (fnd_0 Hn.out h0 h9 HH.out He1.out Hm1.out He2.out Hm2.out).symm), hB1⟩

theorem htmlHash_any (A : Option Addr) (s : List UInt8) (c n : Nat) (w : World) (hn : s.length = n) (hs : BS w A s) (h0 : 0 < n) (h9 : n ≤ 9) (ht : Tabhtml w) :
    Calls Tryd.prog 10 #[.slice A n c] w (HashRet htmlT htmlTab 3031929011 s w) := by
  have hb := hashB_bd s (h0 := 3031929011) (by decide)
  obtain ⟨H, hH⟩ : ∃ H, hashB 3031929011 s = H := ⟨_, rfl⟩
  rw [hH] at hb
  obtain ⟨hb0, hb1⟩ := hb
  obtain ⟨i1, hi1⟩ : ∃ i : Nat, H % 16 = (i : Int) := Int.eq_ofNat_of_zero_le (by omega)
  have I1 : bits .and .u32 (H) 15 = (i1 : Int) := by
    have := mask32 (H) 4 (by omega) (by omega) (by omega)
    rw [show (2 : Int) ^ 4 - 1 = 15 by decide, show (2 : Int) ^ 4 = 16 by decide] at this
    rw [this]; exact hi1
  have cell1 := HTab.slot ht (by decide) H.toNat i1 (by show _ % 16 = _; omega)
  have hf1 := html_fit H.toNat
  obtain ⟨e1, he1⟩ : ∃ e, slot htmlTab H.toNat = e := ⟨_, rfl⟩
  rw [he1] at cell1 hf1
  obtain ⟨n1, hn1⟩ : ∃ x, e1 % 256 = x := ⟨_, rfl⟩
  obtain ⟨s1, hs1⟩ : ∃ x, e1 / 256 = x := ⟨_, rfl⟩
  have hfit1 : s1 + n1 ≤ 46 := by omega
  have hn256_1 : n1 ≤ 255 := by omega
  have hie1 : i1 < 16 := by omega
  have hel1 : (ent htmlT e1).length = n1 := by unfold ent; rw [hn1, hs1]; simp [htmlT_len]; omega
  have hcut1 : (htmlT.drop s1).take (s1 + n1 - s1) = ent htmlT e1 := by unfold ent; rw [hn1, hs1, Nat.add_sub_cancel_left]
  have F1 : bits .and .u32 (e1 : Int) 255 = (n1 : Int) := by
    have := mask32 (e1 : Int) 8 (by omega) (by omega) (by omega)
    rw [show (2 : Int) ^ 8 - 1 = 255 by decide, show (2 : Int) ^ 8 = 256 by decide] at this
    rw [this]; omega
  have Q1 : (e1 : Int) / 256 = (s1 : Int) := by omega
  have He1 := hide he1
  have Hel1 := hide hel1
  have Hcut1 := hide hcut1
  clear he1 hi1 hf1 hn1 hs1 hel1 hcut1
  by_cases hq1 : n = n1
  · by_cases hm1 : ent htmlT e1 = s
    · exact htmlHash_B A s c n w H e1 n1 s1 i1 hH hb0 hb1 hn hs h0 h9 ht I1 cell1 hfit1 hn256_1 hie1 F1 Q1 He1 Hel1 Hcut1 hq1 (hide hm1)
    · exact htmlHash_C A s c n w H e1 n1 s1 i1 hH hb0 hb1 hn hs h0 h9 ht I1 cell1 hfit1 hn256_1 hie1 F1 Q1 He1 Hel1 Hcut1 hq1 (hide hm1)
  · exact htmlHash_A A s c n w H e1 n1 s1 i1 hH hb0 hb1 hn hs h0 h9 ht I1 cell1 hfit1 hn256_1 hie1 F1 Q1 He1 Hel1 Hcut1 hq1

/-- The text of a number. -/
theorem htmlBytes_any (e n s1 : Nat) (t : List UInt8) (w : World) (F1 : bits .and .u32 (e : Int) 255 = (n : Int)) (Q1 : (e : Int) / 256 = (s1 : Int)) (hfit : s1 + n ≤ 46) (hcut : (htmlT.drop s1).take (s1 + n - s1) = t) (hl : t.length = n) (hn : n ≤ 255) :
    Calls Tryd.prog 15 #[.int .u32 (e : Int)] w fun e' w' => ∃ A' c', e' = .returned (.slice A' n c') ∧ BS w' A' t ∧ Below w.heap.size w w' := by
  have Hcut := hide hcut
  have hle : (46 : Int) < (s1 : Int) + (n : Int) → False := by omega
  clear hcut
  go_enter Tryd.func15, Tryd.ntmps15
  go_wp2_with fail
  refine (htmlText_any _).mono ?_
  rintro e1 w1 ⟨rfl, hb1, hB1⟩
  go_wp2_with fail
  refine (htmlText_any _).mono ?_
  rintro e2 w2 ⟨rfl, hb2, hB2⟩
  obtain ⟨A1, hr, hb⟩ := run_cutA (P := Tryd.prog) 22 Tryd.underlying22 (by kernel_rfl) hb2 46 46 s1 (s1 + n) (s1 : Int) ((s1 : Int) + (n : Int)) rfl (by omega) htmlT_len (by omega) (by omega) (Nat.le_refl _)
  rw [Hcut.out] at hb
  have Hr := hide hr
  have Hb := hide hb
  clear hr hb hb1 hb2
  go_wp2_with ((with_reducible refine wpList_slice_runO (Hr.out .u32 .u32 _) _ _ _ ?_ rfl ?_ ?_ ?_ ?_); (rfl); (rfl); (rfl); (rfl))
  go_ret
  exact ⟨A1, 46 - s1, by first | rfl | (rw [Nat.add_sub_cancel_left]) | simp, Hb.out, hB1.trans (hB2.mono hB1.size)⟩
theorem htmlStr_any (e : Nat) (w : World) (he : ∃ h, slot htmlTab h = e) :
    Calls Tryd.prog 11 #[.int .u32 (e : Int)] w fun e' w' => e' = .returned (.string ⟨(ent htmlT e).toArray⟩) ∧ Below w.heap.size w w' := by
  obtain ⟨h, rfl⟩ := he
  obtain ⟨hf1, hf2⟩ := html_fit h
  obtain ⟨e, he⟩ : ∃ e, slot htmlTab h = e := ⟨_, rfl⟩
  rw [he] at hf1 hf2 ⊢
  obtain ⟨n, hn⟩ : ∃ x, e % 256 = x := ⟨_, rfl⟩
  obtain ⟨s1, hs⟩ : ∃ x, e / 256 = x := ⟨_, rfl⟩
  have hel : (ent htmlT e).length = n := by unfold ent; rw [hn, hs]; simp [htmlT_len]; omega
  have hcut : (htmlT.drop s1).take (s1 + n - s1) = ent htmlT e := by unfold ent; rw [hn, hs, Nat.add_sub_cancel_left]
  have F1 : bits .and .u32 (e : Int) 255 = (n : Int) := by
    have := mask32 (e : Int) 8 (by omega) (by omega) (by omega)
    rw [show (2 : Int) ^ 8 - 1 = 255 by decide, show (2 : Int) ^ 8 = 256 by decide] at this
    rw [this]; omega
  have Q1 : (e : Int) / 256 = (s1 : Int) := by omega
  have hb := htmlBytes_any e n s1 (ent htmlT e) w F1 Q1 (by omega) hcut hel (by omega)
  obtain ⟨t, ht⟩ : ∃ t, ent htmlT e = t := ⟨_, rfl⟩
  rw [ht] at hb hel ⊢
  have Hel := hide hel
  clear hn hs hel hcut F1 Q1 ht he
  go_enter Tryd.func11, Tryd.ntmps11
  go_wp2_with fail
  refine hb.mono ?_
  rintro e1 w1 ⟨A1, c1, rfl, hbs, hB⟩
  have hstr := fun c => run_str (P := Tryd.prog) hbs c 22 9 5 Tryd.underlying22 Tryd.underlying5 Tryd.underlying9
  rw [Hel.out] at hstr
  go_wp2
  go_ret
  exact ⟨rfl, hB⟩
end Go.Proofs.YtdmkoggjnfhgfaaDoor
