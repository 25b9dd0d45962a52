/- The walk of 'laws.FnDimension': it returns true for every three lists of bytes. No condition. -/
import Derived.Test.YtdldnnppijfooaaDim
import Derived.Test.YtdldnnppijfooaaCat
import Derived.Deep.Cut
import Derived.Deep.CutRange
import Derived.Deep.CutBlock
import Derived.Deep.DeepCutAuto
namespace Go.Proofs.Ytdldnnppijfooaa
open Go.RowKit
set_option linter.unusedVariables false

theorem numS_n (A : Option Addr) (l : List UInt8) (c n m : Nat) (w : World) (hm : l.length = m) (hn : numLen l = n) (h : BS w A l) (h1 : m ≤ 2147483647) :
    Calls Try.prog 15 #[.slice A m c] w fun e w' => e = .returned (.int .i64 (n : Int)) ∧ w = w' := by
  subst hn hm
  exact numS_any A l c w h h1
theorem isUnit_n (A : Option Addr) (l : List UInt8) (c : Nat) (b : Bool) (w : World) (hb : unitB l = b) (h : BS w A l) (h1 : l.length ≤ 2147483647) :
    Calls Try.prog 16 #[.slice A l.length c] w fun e w' => e = .returned (.bool b) ∧ w = w' := by
  subst hb
  exact isUnit_any A l c w h h1
theorem unit_cases {u : List UInt8} (h : unitB u = true) : u = [37] ∨ (0 < u.length ∧ u.length ≤ 10 ∧ ∀ c ∈ u, isLet c = true) := by
  unfold unitB at h
  rw [Bool.or_eq_true, Bool.and_eq_true, Bool.and_eq_true, beq_iff_eq, decide_eq_true_eq, decide_eq_true_eq, List.all_eq_true] at h
  rcases h with h | ⟨⟨h1, h2⟩, h3⟩
  · exact .inl h
  · exact .inr ⟨h2, h3, h1⟩
theorem unit_len {u : List UInt8} (h : unitB u = true) : 0 < u.length ∧ u.length ≤ 10 := by
  rcases unit_cases h with rfl | ⟨h1, h2, _⟩
  · simp
  · exact ⟨h1, h2⟩
/-- A rest of a text that begins with a space or a semicolon, or is empty. -/
def RestOk (r : List UInt8) : Prop := ∀ c, r[0]? = some c → c = 32 ∨ c = 59
theorem RestOk.goesOn {r : List UInt8} (h : RestOk r) : at_ goesOn r 0 = false := by
  unfold at_
  cases hh : r[0]? with
  | none => rfl
  | some c => rcases h c hh with rfl | rfl <;> rfl
theorem RestOk.let_ {r : List UInt8} (h : RestOk r) : at_ isLet r 0 = false := by
  unfold at_
  cases hh : r[0]? with
  | none => rfl
  | some c => rcases h c hh with rfl | rfl <;> rfl
theorem take_all {p : UInt8 → Bool} : ∀ (u : List UInt8), (∀ c ∈ u, p c = true) → u.takeWhile p = u
  | [], _ => rfl
  | x :: t, h => by
    show (match p x with | true => x :: t.takeWhile p | false => []) = x :: t
    rw [h x (by simp), take_all t (fun c hc => h c (by simp [hc]))]
theorem run_all {p : UInt8 → Bool} (b u r : List UInt8) (hu : ∀ c ∈ u, p c = true) (hr : at_ p r 0 = false) : run p ((b ++ u) ++ r) b.length = u.length := by
  rw [run_app (b ++ u) r hr _ b.length rfl (by simp)]
  unfold run
  rw [List.drop_left, take_all u hu]
theorem at_unit {p : UInt8 → Bool} (b u r : List UInt8) (h0 : 0 < u.length) (hu : ∀ c ∈ u, p c = true) : at_ p ((b ++ u) ++ r) b.length = true := by
  have : ((b ++ u) ++ r)[b.length]? = some u[0] := by
    rw [List.append_assoc, List.getElem?_append_right (Nat.le_refl _), Nat.sub_self, List.getElem?_append_left h0, List.getElem?_eq_getElem h0]
  rw [at_some this]
  exact hu _ (List.getElem_mem h0)
theorem pc_unit (b r : List UInt8) : ((b ++ [37]) ++ r)[b.length]? = some 37 := by
  rw [List.append_assoc, List.getElem?_append_right (Nat.le_refl _), Nat.sub_self]
  rfl

set_option maxRecDepth 100000 in
set_option maxHeartbeats 4000000 in
theorem fnDimension_walk (a0 : Option Addr) (l0 : List UInt8) (c0 : Nat) (a1 : Option Addr) (l1 : List UInt8) (c1 : Nat) (a2 : Option Addr) (l2 : List UInt8) (c2 : Nat) (W : World) (bs0 : BS W a0 l0) (bs1 : BS W a1 l1) (bs2 : BS W a2 l2) :
    Calls Try.prog 7 #[.slice a0 l0.length c0, .slice a1 l1.length c1, .slice a2 l2.length c2] W fun e w' => e = .returned (.bool true) ∧ Below W.heap.size W w' := by
  by_cases hA : 2147483647 < l0.length
  · go_enter Try.func7, Try.ntmps7
    go_wp2
    go_ret
    exact ⟨rfl, Below.refl _ _⟩
  by_cases hA1 : 2147483647 < l1.length
  · go_enter Try.func7, Try.ntmps7
    go_wp2
    go_ret
    exact ⟨rfl, Below.refl _ _⟩
  by_cases hA2 : 2147483647 < l2.length
  · go_enter Try.func7, Try.ntmps7
    go_wp2
    go_ret
    exact ⟨rfl, Below.refl _ _⟩
  generalize hn : numLen l0 = n
  have Hn := hide hn
  clear hn
  by_cases hB : 5000 < l0.length
  · go_enter Try.func7, Try.ntmps7
    go_wp2_with (go_at_call 15; refine (numS_n _ _ _ n _ _ rfl Hn.out bs0 (by omega)).mono ?_; rintro e w1 ⟨rfl, rfl⟩)
    go_ret
    exact ⟨rfl, Below.refl _ _⟩
  rcases Nat.eq_zero_or_pos n with hz | hz
  · subst hz
    go_enter Try.func7, Try.ntmps7
    go_wp2_with (go_at_call 15; refine (numS_n _ _ _ 0 _ _ rfl Hn.out bs0 (by omega)).mono ?_; rintro e w1 ⟨rfl, rfl⟩)
    go_ret
    exact ⟨rfl, Below.refl _ _⟩
  have z1 : ((n : Int) == 0) = false := by rw [beq_eq_false_iff_ne]; omega
  by_cases hne : n = l0.length
  case neg =>
    have z2 : ((n : Int) != (l0.length : Int)) = true := by rw [bne_iff_ne]; omega
    clear hne
    go_enter Try.func7, Try.ntmps7
    go_wp2_with (go_at_call 15; refine (numS_n _ _ _ n _ _ rfl Hn.out bs0 (by omega)).mono ?_; rintro e w1 ⟨rfl, rfl⟩)
    go_ret
    exact ⟨rfl, Below.refl _ _⟩
  have z2 : ((n : Int) != (l0.length : Int)) = false := by rw [bne_eq_false_iff_eq]; omega
  have Hne := hide hne
  clear hne
  by_cases hC : 5000 < l2.length
  · go_enter Try.func7, Try.ntmps7
    go_wp2_with (go_at_call 15; refine (numS_n _ _ _ n _ _ rfl Hn.out bs0 (by omega)).mono ?_; rintro e w1 ⟨rfl, rfl⟩)
    go_ret
    exact ⟨rfl, Below.refl _ _⟩
  by_cases hR : RestOk l2
  case neg =>
    have hR2 : ∃ c, l2[0]? = some c ∧ ¬ (c = 32 ∨ c = 59) := by
      unfold RestOk at hR
      simp only [Classical.not_forall] at hR
      obtain ⟨c, hc, h⟩ := hR
      exact ⟨c, hc, h⟩
    obtain ⟨d, hd, hd2⟩ := hR2
    obtain ⟨hl2, _⟩ := List.getElem?_eq_some_iff.1 hd
    obtain ⟨b, o, rfl, cell⟩ := bs2.at_ hd
    rw [Nat.add_zero] at cell
    have r1 : ((d.toNat : Int) != 32) = true := by rw [bne_iff_ne]; intro e; exact hd2 (.inl (UInt8.toNat_inj.1 (by simp; omega)))
    have r2 : ((d.toNat : Int) != 59) = true := by rw [bne_iff_ne]; intro e; exact hd2 (.inr (UInt8.toNat_inj.1 (by simp; omega)))
    clear hd2 hd hR
    go_enter Try.func7, Try.ntmps7
    go_wp2_with (go_at_call 15; refine (numS_n _ _ _ n _ _ rfl Hn.out bs0 (by omega)).mono ?_; rintro e w1 ⟨rfl, rfl⟩)
    go_ret
    exact ⟨rfl, Below.refl _ _⟩
  have HR := hide hR
  clear hR
  go_enter Try.func7, Try.ntmps7
  go_upto_region 4 with (go_at_call 15; refine (numS_n _ _ _ n _ _ rfl Hn.out bs0 (by omega)).mono ?_; rintro e w1 ⟨rfl, rfl⟩)
  go_cut [60] (fun t wx => t = .bool false ∧ W = wx)
  case first =>
    by_cases hl0 : 0 < l2.length
    case neg =>
      go_wp2
      go_meet
      exact ⟨congrArg Value.bool (by simp; omega), rfl⟩
    · obtain ⟨d, hd⟩ : ∃ x, l2[0]? = some x := ⟨_, List.getElem?_eq_getElem hl0⟩
      obtain ⟨b, o, rfl, cell⟩ := bs2.at_ hd
      rw [Nat.add_zero] at cell
      rcases HR.out d hd with rfl | rfl
      · clear hd
        go_wp2
        go_meet
        exact ⟨congrArg Value.bool (by simp; omega), rfl⟩
      · clear hd
        go_wp2
        go_meet
        exact ⟨congrArg Value.bool (by simp; omega), rfl⟩
  case rest =>
    obtain ⟨rfl, rfl⟩ := hcut
    cases hU : unitB l1 with
    | false =>
      have HU := hide hU
      clear hU
      go_wp2_with (go_at_call 16; refine (isUnit_n _ _ _ false _ HU.out bs1 (by omega)).mono ?_; rintro e w1 ⟨rfl, rfl⟩)
      go_ret
      exact ⟨rfl, Below.refl _ _⟩
    | true =>
      have HU := hide hU
      have hul := (unit_len hU).1
      have hul2 := (unit_len hU).2
      clear hU
      obtain ⟨A1, d1, w1, run1, own1, B1⟩ := cat0 W bs0 c0 (by omega)
      obtain ⟨A2, d2, w2, run2, own2, B2⟩ := catS own1 B1 bs1 c1 (by omega)
      obtain ⟨A3, d3, w3, run3, own3, B3⟩ := cat0 w2 (bs0.below B2) c0 (by omega)
      obtain ⟨A4, d4, w4, run4, own4, B4⟩ := catS own3 B3 (bs1.below B2) c1 (by omega)
      obtain ⟨A5, d5, w5, run5, own5, B5⟩ := catS own4 B4 (bs2.below B2) c2 (by omega)
      have R1 := hide run1
      have R2 := hide run2
      have R3 := hide run3
      have R4 := hide run4
      have R5 := hide run5
      have Bf := hide (B2.trans (B5.mono B2.size))
      have HB2 := hide B2
      clear run1 run2 run3 run4 run5 B1 B2 B3 B4 B5 own1 own3 own4
      generalize hm : numLen (l0 ++ l1) = m
      have Hm := hide hm
      clear hm
      go_wp2_with fail
      refine (isUnit_n _ _ _ true _ HU.out bs1 (by omega)).mono ?_
      rintro e w1 ⟨rfl, rfl⟩
      have O2 := hide own2.bs
      clear own2
      go_wp2_with (first
        | (at_builtin; (with_reducible refine wpList_append_runG R1.out _ _ ?_ rfl rfl ?_ ?_ ?_); (rfl); (rfl); (rfl))
        | (at_builtin; (with_reducible refine wpList_append_runG R2.out _ _ ?_ rfl rfl ?_ ?_ ?_); (rfl); (rfl); (rfl)))
      refine (numS_n _ _ _ m _ _ (by simp) Hm.out O2.out (by omega)).mono ?_
      rintro e w1 ⟨rfl, rfl⟩
      by_cases hmn : m = n
      case neg =>
        have b1 : ((m : Int) != (n : Int)) = true := by rw [bne_iff_ne]; omega
        clear hmn
        go_wp2
        go_ret
        exact ⟨rfl, HB2.out⟩
      have b1 : ((m : Int) != (n : Int)) = false := by rw [bne_eq_false_iff_eq]; omega
      have HN := hide (show numLen ((l0 ++ l1) ++ l2) = n by rw [numLen_app _ _ HR.out.goesOn, Hm.out, hmn])
      clear hmn
      rcases unit_cases HU.out with h37 | ⟨_, _, hlet⟩
      · have P := hide (show ((l0 ++ l1) ++ l2)[n]? = some 37 by rw [Hne.out, h37]; exact pc_unit l0 l2)
        have P1 := hide (show l1.length = 1 by rw [h37]; rfl)
        clear h37
        go_wp2_with (first
          | (at_builtin; (with_reducible refine wpList_append_runG R3.out _ _ ?_ rfl rfl ?_ ?_ ?_); (rfl); (rfl); (rfl))
          | (at_builtin; (with_reducible refine wpList_append_runG R4.out _ _ ?_ rfl rfl ?_ ?_ ?_); (rfl); (rfl); (rfl))
          | (at_builtin; (with_reducible refine wpList_append_runG R5.out _ _ ?_ rfl rfl ?_ ?_ ?_); (rfl); (rfl); (rfl)))
        refine (iDim_pc _ _ _ n _ _ (by simp [Nat.add_assoc]) HN.out (by omega) P.out own5.bs (by omega)).mono ?_
        rintro e w6 ⟨rfl, rfl⟩
        go_wp2
        go_ret
        exact ⟨ret_bool (by have := P1.out; simp; omega), Bf.out⟩
      · have P := hide (show at_ isLet ((l0 ++ l1) ++ l2) n = true by rw [Hne.out]; exact at_unit l0 l1 l2 hul hlet)
        have P1 := hide (show run isLet ((l0 ++ l1) ++ l2) n = l1.length by rw [Hne.out]; exact run_all l0 l1 l2 hlet HR.out.let_)
        clear hlet
        go_wp2_with (first
          | (at_builtin; (with_reducible refine wpList_append_runG R3.out _ _ ?_ rfl rfl ?_ ?_ ?_); (rfl); (rfl); (rfl))
          | (at_builtin; (with_reducible refine wpList_append_runG R4.out _ _ ?_ rfl rfl ?_ ?_ ?_); (rfl); (rfl); (rfl))
          | (at_builtin; (with_reducible refine wpList_append_runG R5.out _ _ ?_ rfl rfl ?_ ?_ ?_); (rfl); (rfl); (rfl)))
        refine (iDim_let _ _ _ n _ l1.length _ (by simp [Nat.add_assoc]) P1.out HN.out (by omega) P.out own5.bs (by omega)).mono ?_
        rintro e w6 ⟨rfl, rfl⟩
        go_wp2
        go_ret
        exact ⟨ret_bool (by simp), Bf.out⟩
end Go.Proofs.Ytdldnnppijfooaa
