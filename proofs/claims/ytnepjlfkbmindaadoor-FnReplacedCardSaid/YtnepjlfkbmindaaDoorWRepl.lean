/- The walk of 'laws.FnReplaced': it returns true for every list of numbers, words, names and texts. Condition: the two tables' cells. -/
import Derived.Test.YtnepjlfkbmindaaDoorWRp0
import Derived.LaidMore
namespace Go.Proofs.YtnepjlfkbmindaaDoor
open Go.RowKit
set_option linter.unusedVariables false
set_option linter.unusedSimpArgs false

set_option maxRecDepth 100000 in
set_option maxHeartbeats 4000000 in
theorem fnReplaced_walk (a0 : Option Addr) (l0 : List Int) (c0 : Nat) (a1 : Option Addr) (l1 : List (List UInt8)) (c1 : Nat) (a2 : Option Addr) (l2 : List (List UInt8)) (c2 : Nat) (a3 : Option Addr) (l3 : List (List UInt8)) (c3 : Nat) (x4 : Bool) (W : World)
    (hc0 : l0.length ≤ c0) (is0 : IntsAt W a0 l0) (ib0 : ∀ i (h : i < l0.length), -9223372036854775808 ≤ l0[i] ∧ l0[i] ≤ 9223372036854775807)
    (hc1 : l1.length ≤ c1) (ll1 : LL W a1 l1) (hm1 : ∀ (i : Nat) (y : List UInt8), l1[i]? = some y → y.length ≤ maxLen)
    (hc2 : l2.length ≤ c2) (ll2 : LL W a2 l2) (hm2 : ∀ (i : Nat) (y : List UInt8), l2[i]? = some y → y.length ≤ maxLen)
    (hc3 : l3.length ≤ c3) (ll3 : LL W a3 l3) (hm3 : ∀ (i : Nat) (y : List UInt8), l3[i]? = some y → y.length ≤ maxLen)
    (ht : WsTab W) (hn : NlTab W) :
    Calls Tryd.prog 3 #[.slice a0 l0.length c0, .slice a1 l1.length c1, .slice a2 l2.length c2, .slice a3 l3.length c3, .bool x4] W fun e W' => e = .returned (.bool true) ∧ Below W.heap.size W W' := by
  obtain ⟨n0, hn0⟩ : ∃ n, l0.length = n := ⟨_, rfl⟩
  obtain ⟨n1, hn1⟩ : ∃ n, l1.length = n := ⟨_, rfl⟩
  obtain ⟨n2, hn2⟩ : ∃ n, l2.length = n := ⟨_, rfl⟩
  obtain ⟨n3, hn3⟩ : ∃ n, l3.length = n := ⟨_, rfl⟩
  have hib : ∀ (i : Nat) (z : Int), l0[i]? = some z → z ≤ 9223372036854775807 := fun i z hz => by
    obtain ⟨h1, h2⟩ := List.getElem?_eq_some_iff.1 hz
    have := (ib0 i h1).2
    omega
  have his : ∀ (i : Nat) (z : Int), l0[i]? = some z → ∃ b o, a0 = some ⟨b, o, none⟩ ∧ W.cell? ⟨b, o + i, none⟩ = some (.int .i64 z) := fun i z hz => by
    obtain ⟨h1, h2⟩ := List.getElem?_eq_some_iff.1 hz
    subst h2
    exact is0 i h1
  rw [hn0] at hc0
  rw [hn1] at hc1
  rw [hn2] at hc2
  rw [hn3] at hc3
  have Hn0 := hide hn0
  have Hn1 := hide hn1
  have Hn2 := hide hn2
  have Hn3 := hide hn3
  have Hm1 := hide hm1
  have Hm2 := hide hm2
  have Hm3 := hide hm3
  have L1 := hide ll1
  have L2 := hide ll2
  have L3 := hide ll3
  have HI := hide his
  have HB := hide hib
  have Ht := hide ht
  have Hnl := hide hn
  rw [hn0, hn1, hn2, hn3]
  clear hn0 hn1 hn2 hn3 hm1 hm2 hm3 ll1 ll2 ll3 his hib is0 ib0 ht hn
  by_cases b0 : 2147483647 < n0
  · go_enter Tryd.func3, Tryd.ntmps3
    go_wp2
    go_ret
    exact ⟨rfl, Below.refl _ _⟩
  by_cases b1 : 200 < n0 ∨ 50 < n1 ∨ n1 = 0
  · have b2 : 200 < n0 ∨ (n0 ≤ 200 ∧ 50 < n1) ∨ (n0 ≤ 200 ∧ n1 = 0) := by omega
    clear b1
    rcases b2 with b2 | ⟨b3, b2⟩ | ⟨b3, b2⟩
    case' inr.inr => subst b2
    all_goals go_enter Tryd.func3, Tryd.ntmps3
    all_goals go_wp2_with (first
      | (go_at_call 4; (with_reducible refine (fits_any a1 l1 c1 _ _ L1.out Hn1.out Hm1.out).mono ?_); rintro e wf (⟨rfl, hf1, rfl⟩ | ⟨rfl, rfl⟩))
      | (go_at_call 4; (with_reducible refine (fits_any a2 l2 c2 _ _ L2.out Hn2.out Hm2.out).mono ?_); rintro e wf (⟨rfl, hf2, rfl⟩ | ⟨rfl, rfl⟩))
      | (go_at_call 4; (with_reducible refine (fits_any a3 l3 c3 _ _ L3.out Hn3.out Hm3.out).mono ?_); rintro e wf (⟨rfl, hf3, rfl⟩ | ⟨rfl, rfl⟩))
      | (go_at_call 5; (with_reducible refine (ents_any a2 a3 l2 l3 c2 c3 _ _ _ L2.out L3.out Hn2.out Hn3.out hc2 hf2.1 hf2.2 hf3.2).mono ?_); rintro e wf (⟨rfl, hen, rfl⟩ | ⟨rfl, rfl⟩)))
    all_goals (go_ret; exact ⟨rfl, Below.refl _ _⟩)
  have h200 : n0 ≤ 200 := by omega
  have h50 : n1 ≤ 50 := by omega
  have hpos : 0 < n1 := by omega
  have hz1 : ((n1 : Int) == 0) = false := by rw [beq_eq_false_iff_ne]; omega
  clear b1 b0
  have hS := RpRel.start (l2.zip l3) W
  have HS := hide hS
  clear hS
  go_enter Tryd.func3, Tryd.ntmps3
  go_wp2_with (first
    | (go_at_call 4; (with_reducible refine (fits_any a1 l1 c1 _ _ L1.out Hn1.out Hm1.out).mono ?_); rintro e wf (⟨rfl, hf1, rfl⟩ | ⟨rfl, rfl⟩))
    | (go_at_call 4; (with_reducible refine (fits_any a2 l2 c2 _ _ L2.out Hn2.out Hm2.out).mono ?_); rintro e wf (⟨rfl, hf2, rfl⟩ | ⟨rfl, rfl⟩))
    | (go_at_call 4; (with_reducible refine (fits_any a3 l3 c3 _ _ L3.out Hn3.out Hm3.out).mono ?_); rintro e wf (⟨rfl, hf3, rfl⟩ | ⟨rfl, rfl⟩))
    | (go_at_call 5; (with_reducible refine (ents_any a2 a3 l2 l3 c2 c3 _ _ _ L2.out L3.out Hn2.out Hn3.out hc2 hf2.1 hf2.2 hf3.2).mono ?_); rintro e wf (⟨rfl, hen, rfl⟩ | ⟨rfl, rfl⟩)))
  all_goals first
    | (go_ret; exact ⟨rfl, Below.refl _ _⟩)
    | skip
  obtain rfl : n3 = n2 := by have := hen.2.1; rw [Hn2.out, Hn3.out] at this; exact this
  have HE := hide hen
  have HF1 := hide hf1.2
  clear hf1 hf2 hf3 hen
  go_loopg [11, 12, 59] n0 (fun gk tv dv iv wr => ∃ (i n c m d : Nat) (A D : Option Addr), n0 - i ≤ gk ∧ i ≤ n0 ∧ n ≤ 100 * i ∧ m ≤ 100 * i ∧ tv = .slice A n c ∧ dv = .slice D m d ∧ iv = .int .i64 (i : Int) ∧ Hid (RpRel (l2.zip l3) W wr A n c D m d))
  case atStart => exact ⟨0, 0, 0, 0, 0, _, _, by omega, Nat.zero_le _, by omega, by omega, rfl, rfl, rfl, HS⟩
  case round =>
    obtain ⟨i, n, c, m, d, A, D, hgk, hik, hn100, hm100, rfl, rfl, rfl, hr⟩ := hrel
    have hW : Hid (Below W.heap.size W _) := hide hr.out.bel
    by_cases hi : i < n0
    · obtain ⟨z, hz⟩ : ∃ d, l0[i]? = some d := ⟨_, List.getElem?_eq_getElem (by have := Hn0.out; omega)⟩
      have hzb := HB.out i z hz
      obtain ⟨b, o, rfl, hcz⟩ := HI.out i z hz
      have ccz := (hW.out.cell (block_lt_of_cell hcz)).trans hcz
      clear hz hcz
      go_wp2_with (first
        | (go_at_call 6; (with_reducible refine (piece_next z a1 a2 a3 A D c1 c2 c3 n1 n3 n c m d l1 l2 l3 W _ hzb hpos L1.out L2.out L3.out Hn1.out Hn2.out Hn3.out HF1.out HE.out hr.out (by omega) (by omega)).mono ?_); rintro e w1 ⟨B1, B2, q1, e1, q2, e2, (⟨rfl, hbW⟩ | ⟨rfl, hq1, hq2, A', c', w2, D', d', w3, R1, R2, HN⟩)⟩)
        | (at_builtin; (with_reducible refine wpList_append_runG R1.out _ _ ?_ rfl rfl ?_ ?_ ?_); (rfl); (rfl); (rfl))
        | (at_builtin; (with_reducible refine wpList_append_runG R2.out _ _ ?_ rfl rfl ?_ ?_ ?_); (rfl); (rfl); (rfl)))
      · go_ret
        exact ⟨rfl, hbW⟩
      · go_roundg (n0 - (i + 1))
        case rel => exact ⟨i + 1, n + q1, c', m + q2, d', A', D', Nat.le_refl _, by omega, by omega, by omega, rfl, rfl, by go_num, HN⟩
        case measure => omega
    · obtain rfl : i = n0 := by omega
      obtain ⟨its, ot, od, ok⟩ := hr.out.ex
      have Ot := hide ot.bs
      have Od := hide od.bs
      have Lt := hide ot.len
      have Ld := hide od.len
      have HTd := hide (todo_all ok)
      clear ot od ok
      have hn20 : n ≤ 20000 := by omega
      have hm20 : m ≤ 20000 := by omega
      clear hn100 hm100
      have HTw := hide (Ht.out.below hW.out)
      have HNw := hide (Hnl.out.below hW.out)
      have L2w := hide (L2.out.below hW.out)
      have L3w := hide (L3.out.below hW.out)
      cases x4
      · go_wp2_with (first
          | (go_at_call 9; (with_reducible refine (irep_any A a2 a3 c c2 c3 n n3 (srcs its) (dsts its) its l2 l3 false _ Ot.out Lt.out (by omega) L2w.out L3w.out Hn2.out Hn3.out HE.out HTd.out HTw.out HNw.out).mono ?_); rintro e w5 ⟨p, P, pc, rfl, hbp, hpl, hB5⟩; have hbp1 : BS w5 P (dsts its) := hbp; have hpl1 : (dsts its).length = p := hpl)
          | (go_at_call 8; (with_reducible refine (same_n _ _ (dsts its) (dsts its) _ _ _ _ true _ (by simp) hpl1 Ld.out hbp1 (Od.out.below hB5)).mono ?_); rintro e w6 ⟨rfl, rfl⟩))
        go_ret
        exact ⟨rfl, hW.out.trans (hB5.mono hW.out.size)⟩
      · go_wp2_with (first
          | (go_at_call 7; (with_reducible refine (sqS_n D (dsts its) m d _ Od.out Ld.out (by omega)).mono ?_); rintro e w4 ⟨Q, q, qc, rfl, hbq, hql, hB4⟩)
          | (go_at_call 9; (with_reducible refine (irep_any A a2 a3 c c2 c3 n n3 (srcs its) (dsts its) its l2 l3 true _ (Ot.out.below hB4) Lt.out (by omega) (L2w.out.below hB4) (L3w.out.below hB4) Hn2.out Hn3.out HE.out HTd.out (HTw.out.below hB4) (HNw.out.below hB4)).mono ?_); rintro e w5 ⟨p, P, pc, rfl, hbp, hpl, hB5⟩; have hbp1 : BS w5 P (sq (dsts its)) := hbp; have hpl1 : (sq (dsts its)).length = p := hpl)
          | (go_at_call 8; (with_reducible refine (same_n _ _ (sq (dsts its)) (sq (dsts its)) _ _ _ _ true _ (by simp) hpl1 hql hbp1 (hbq.below hB5)).mono ?_); rintro e w6 ⟨rfl, rfl⟩))
        go_ret
        exact ⟨rfl, (hW.out.trans (hB4.mono hW.out.size)).trans (hB5.mono (Nat.le_trans hW.out.size hB4.size))⟩
end Go.Proofs.YtnepjlfkbmindaaDoor
