/- The package's decoding of bytes that are written by their numbers, in place. Conditions: the text is a row of the call's own, shorter than 2^31, without plus signs. -/
import Derived.Test.YtdklelnllhpbfaaDoorInpl
import Derived.Test.YtdklelnllhpbfaaDoorUnesc
import Derived.Test.YtdklelnllhpbfaaDoorCat
import Derived.StillTailTactics
namespace Go.Proofs.YtdklelnllhpbfaaDoor
open Go.RowKit
set_option linter.unusedVariables false

/-- No byte from place k on is a plus sign. -/
def NoPlus (l : List UInt8) (k : Nat) : Prop := ∀ j x, k ≤ j → l[j]? = some x → x ≠ 43
theorem NoPlus.next {l : List UInt8} {k : Nat} (h : NoPlus l k) : NoPlus l (k + 1) := fun j x hj hx => h j x (by omega) hx
theorem NoPlus.hit {l : List UInt8} {k : Nat} {y : UInt8} (h : NoPlus l k) (hk : k < l.length) : NoPlus ((l.set k y).take (k + 1) ++ (l.set k y).drop (k + 3)) (k + 1) := fun j x hj hx => by
  have e1 : ((l.set k y).take (k + 1)).length = k + 1 := by simp; omega
  rw [List.getElem?_append_right (by omega), e1, List.getElem?_drop, List.getElem?_set_ne (by omega)] at hx
  exact h _ x (by omega) hx
theorem place_end {l t : List UInt8} {k : Nat} (hl : l.length ≤ k) (h : l.take k ++ unesc (l.drop k) = t) : l = t := by
  rw [List.take_of_length_le hl, List.drop_of_length_le hl, unesc_nil, List.append_nil] at h
  exact h
/-- What is known at the head of the inner loop: how many digits have been read, and their value. -/
def DecRel (k : Nat) (a b : UInt8) (j c : Value) : Prop :=
  (j = .int .i64 (((k + 1 : Nat)) : Int) ∧ c = .int .i64 0) ∨ (isHex a = true ∧ j = .int .i64 (((k + 2 : Nat)) : Int) ∧ c = .int .i64 ((hexV a : Nat) : Int)) ∨
  (isHex a = true ∧ isHex b = true ∧ j = .int .i64 (((k + 3 : Nat)) : Int) ∧ c = .int .i64 (((hexB a b).toNat : Nat) : Int))

/-- What decoding returns. -/
def DecRet (base g c : Nat) (l : List UInt8) (w : World) (e : Ending) (w' : World) : Prop :=
  e = .returned (.slice (some ⟨g, 0, none⟩) (unesc l).length c) ∧ OwnB w' base (some ⟨g, 0, none⟩) (unesc l).length c (unesc l) ∧ w.grownBy w' (some g)

set_option maxRecDepth 100000 in
set_option maxHeartbeats 4000000 in
theorem decodeI (g c : Nat) (l : List UInt8) (base : Nat) (w : World) (own : OwnB w base (some ⟨g, 0, none⟩) l.length c l) (hno : NoPlus l 0) (h1 : l.length ≤ 2147483647) :
    Calls Tryd.prog 14 #[.slice (some ⟨g, 0, none⟩) l.length c] w (DecRet base g c l w) := by
  go_enter Tryd.func14, Tryd.ntmps14
  go_wp2
  go_loopw [0, 3] (fun b i wr => ∃ (n k : Nat) (cur : List UInt8), b = .slice (some ⟨g, 0, none⟩) n c ∧ i = .int .i64 (k : Int) ∧ k ≤ n ∧ n ≤ l.length ∧ OwnB wr base (some ⟨g, 0, none⟩) n c cur ∧ Hid (cur.take k ++ unesc (cur.drop k) = unesc l) ∧ Hid (NoPlus cur k) ∧ w.grownBy wr (some g))
    (fun _ i _ => l.length - (intOf i).toNat)
  case atStart => exact ⟨l.length, 0, l, rfl, rfl, Nat.zero_le _, Nat.le_refl _, own, hide rfl, hide hno, World.grownBy.refl _ _⟩
  case round =>
    obtain ⟨n, k, cur, rfl, rfl, hk, hn, own, hp, hnp, hgr⟩ := hrel
    by_cases hlt : k < n
    · have hcl := own.len
      obtain ⟨d, hd⟩ : ∃ x, cur[k]? = some x := ⟨_, List.getElem?_eq_getElem (by omega)⟩
      have cell0 := own.cellI hd
      have d43 : ((d.toNat : Int) == 43) = false := by
        rw [beq_eq_false_iff_ne]
        intro e
        exact hnp.out k d (Nat.le_refl _) hd (UInt8.toNat_inj.1 (by simp; omega))
      have Hcl := hide hcl
      clear hcl
      by_cases h37 : d = 37
      · have d37 : ((d.toNat : Int) == 37) = true := by rw [h37]; rfl
        by_cases h2 : k + 2 < n
        · have b2 : decide ((k : Int) + 2 < (n : Int)) = true := by rw [decide_eq_true_eq]; omega
          obtain ⟨a, ha⟩ : ∃ x, cur[k + 1]? = some x := ⟨_, List.getElem?_eq_getElem (by have := Hcl.out; omega)⟩
          obtain ⟨b, hb⟩ : ∃ x, cur[k + 2]? = some x := ⟨_, List.getElem?_eq_getElem (by have := Hcl.out; omega)⟩
          have cell1 := own.cellI ha
          have cell2 := own.cellI hb
          have Hh := hide (hit_at hd ha hb)
          have Hd := hide hd
          have Ha := hide ha
          have Hb := hide hb
          have H37 := hide h37
          clear hd ha hb h37
          obtain ⟨wo, rfl⟩ : ∃ wo : World, wo = wr := ⟨_, rfl⟩
          go_wp2
          go_loop [4, 5] (DecRel k a b) (fun j _ => k + 3 - (intOf j).toNat)
          case atStart => exact .inl ⟨rfl, rfl⟩
          case round =>
            rcases hrel with ⟨rfl, rfl⟩ | ⟨hxa, rfl, rfl⟩ | ⟨hxa, hxb, rfl, rfl⟩
            · rcases hex_cases a with ⟨r1, r2, hx, hv⟩ | ⟨r1, r2, hx, hv⟩ | ⟨r1, r2, hx, hv⟩ | ⟨hx, hr⟩
              case inr.inr.inr =>
                have V := hide hx
                clear hx
                rcases hr with hr | ⟨hr, hr2⟩ | ⟨hr, hr2⟩ | hr
                all_goals
                  go_wp2
                  go_roundw
                  case rel => exact ⟨n, k + 1, cur, rfl, by go_num, by omega, hn, own, hide (place_miss Hd.out (by rw [Hh.out, V.out]; simp) hp.out), hide hnp.out.next, hgr⟩
                  case measure => simp [intOf]; omega
              all_goals
                have V := hide (And.intro hx hv)
                clear hx hv
                go_wp2
                go_round
                case rel => exact .inr (.inl ⟨V.out.1, by go_num, by have := V.out.2; go_num⟩)
                case measure => simp [intOf]; omega
            · have hx4 := hexV_lt hxa
              have Ha1 := hide hxa
              clear hxa
              rcases hex_cases b with ⟨r1, r2, hx, hv⟩ | ⟨r1, r2, hx, hv⟩ | ⟨r1, r2, hx, hv⟩ | ⟨hx, hr⟩
              case inr.inr.inr =>
                have V := hide hx
                clear hx
                rcases hr with hr | ⟨hr, hr2⟩ | ⟨hr, hr2⟩ | hr
                all_goals
                  go_wp2
                  go_roundw
                  case rel => exact ⟨n, k + 1, cur, rfl, by go_num, by omega, hn, own, hide (place_miss Hd.out (by rw [Hh.out, V.out]; simp) hp.out), hide hnp.out.next, hgr⟩
                  case measure => simp [intOf]; omega
              all_goals
                have V := hide (And.intro hx (And.intro hv (hexB_toNat Ha1.out hx)))
                clear hx hv
                go_wp2
                go_round
                case rel => exact .inr (.inr ⟨Ha1.out, V.out.1, by go_num, by have h1 := V.out.2.1; have h2 := V.out.2.2; go_num⟩)
                case measure => simp [intOf]; omega
            · have hB := (hexB a b).toNat_lt
              have hle := own.le.1
              have frz := own.frz k
              have own2 := (own.set_ k (hexB a b)).drew
              have own3 := own2.take (k := k + 1) (by omega)
              have Hit : Hid (hit (cur.drop k) = true) := by rw [Hh.out, H37.out, hxa, hxb]; rfl
              have Hp2 := hide (place_hit Hd.out Ha.out Hb.out Hit.out hp.out)
              have Hnp2 := hide (hnp.out.hit (y := hexB a b) (by have := Hcl.out; omega))
              obtain ⟨A', runL, src, _⟩ := run_lo8 (P := Tryd.prog) 22 Tryd.underlying22 (by kernel_rfl) own2.bs n c (k + 3) ((k : Int) + 3) (by simp) (by have := Hcl.out; simp; omega) (by omega) hle
              obtain ⟨w2, hrun, own4, hg2⟩ := run_append_fits8 own3 src (n - (k + 3)) (c - (k + 3)) (by have := Hcl.out; simp; omega) (by omega)
              have hg3 := grown_set hgr (p := ⟨g, k, none⟩) (.inl rfl) (.int .u8 ((hexB a b).toNat : Int))
              have hg4 : w.grownBy w2 (some g) := World.grownBy.trans (b := (wo.setCell ⟨g, k, none⟩ (.int .u8 ((hexB a b).toNat : Int))).drew) ⟨hg3.os, hg3.tape, hg3.output, hg3.size, hg3.block⟩ hg2
              have Hrun := hide hrun
              have HrunL := hide runL
              have HrunH := hide (run_hi8 (P := Tryd.prog) (A := some ⟨g, 0, none⟩) 22 Tryd.underlying22 (by kernel_rfl) n c (k + 1) ((k : Int) + 1) (by simp) (by omega) .i64)
              clear hrun own2 own3 src hxa hxb runL hg2 hg3
              go_wp2
              have s1 : IntKind.i64.wrap ((k : Int) + 1) = (k : Int) + 1 := IntWalk.i64_in _ (by omega)
              have s3 : IntKind.i64.wrap ((k : Int) + 3) = (k : Int) + 3 := IntWalk.i64_in _ (by omega)
              refine wp_region_still_tail 8 (by kernel_rfl) (by kernel_rfl) ?_
              simp only [List.take_succ_cons, List.take_zero, List.drop_succ_cons, List.drop_zero]
              repeat (first
                | still_step
                | ((with_reducible refine wpStill_slice_runO (HrunH.out _) _ _ _ ?_ rfl ?_ ?_ ?_ ?_); (rfl); (rfl); (rfl); (rfl))
                | ((with_reducible refine wpStill_slice_runO (HrunL.out .i64 _) _ _ _ ?_ rfl ?_ ?_ ?_ ?_); (rfl); (rfl); (rfl); (rfl)))
              refine wpStill_nil ?_
              clear s1 s3
              go_wp2_with (at_builtin; (with_reducible refine wpList_append_runG Hrun.out _ _ ?_ rfl rfl ?_ ?_ ?_); (rfl); (rfl); (rfl))
              go_roundw
              case rel => exact ⟨k + 1 + (n - (k + 3)), k + 1, _, rfl, by go_num, by omega, by omega, own4, Hp2, Hnp2, hg4⟩
              case measure => simp [intOf]; omega
        · go_wp2
          go_roundw
          case rel => exact ⟨n, k + 1, cur, rfl, by go_num, by omega, hn, own, hide (place_miss hd (hit_short (by have := Hcl.out; omega)) hp.out), hide hnp.out.next, hgr⟩
          case measure => simp [intOf]; omega
      · have d37 : ((d.toNat : Int) == 37) = false := by
          rw [beq_eq_false_iff_ne]
          intro e
          exact h37 (UInt8.toNat_inj.1 (by simp; omega))
        go_wp2
        go_roundw
        case rel => exact ⟨n, k + 1, cur, rfl, by go_num, by omega, hn, own, hide (place_miss hd (hit_not hd h37) hp.out), hide hnp.out.next, hgr⟩
        case measure => simp [intOf]; omega
    · obtain rfl : k = n := by omega
      have hce := place_end (by have := own.len; omega) hp.out
      subst hce
      have Hl := hide own.len
      go_wp2
      go_ret
      exact ⟨by rw [Hl.out]; rfl, by rw [Hl.out]; exact own, hgr⟩
end Go.Proofs.YtdklelnllhpbfaaDoor
