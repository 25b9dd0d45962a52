/- The reference's decoding of bytes that are written by their numbers: by appending. Condition: the text is shorter than 2^31. -/
import Derived.Test.YteinmabdkkddiaaHexS
import Derived.Test.YteinmabdkkddiaaCat
import Derived.Deep.RegionLaw
namespace Go.Proofs.Yteinmabdkkddiaa
open Go.RowKit
set_option linter.unusedVariables false

theorem out_miss {l out t : List UInt8} {k : Nat} {d : UInt8} (h0 : l[k]? = some d) (h : hit (l.drop k) = false) (ht : out ++ unesc (l.drop k) = t) : (out ++ [d]) ++ unesc (l.drop (k + 1)) = t := by
  rw [un_miss h0 h] at ht
  rw [List.append_assoc]
  exact ht
theorem out_hit {l out t : List UInt8} {k : Nat} {d a b : UInt8} (h0 : l[k]? = some d) (h1 : l[k + 1]? = some a) (h2 : l[k + 2]? = some b) (h : hit (l.drop k) = true) (ht : out ++ unesc (l.drop k) = t) : (out ++ [hexB a b]) ++ unesc (l.drop (k + 3)) = t := by
  rw [un_hit h0 h1 h2 h] at ht
  rw [List.append_assoc]
  exact ht
theorem out_end {l out t : List UInt8} {k : Nat} (hl : l.length ≤ k) (ht : out ++ unesc (l.drop k) = t) : out = t := by
  rw [List.drop_of_length_le hl, unesc_nil, List.append_nil] at ht
  exact ht
/-- One byte behind a row of the call's own. -/
theorem snoc8 {w0 w : World} {A : Option Addr} {n c : Nat} {l : List UInt8} (own : OwnB w w0.heap.size A n c l) (hb : Below w0.heap.size w0 w) (x : UInt8) (hl : n + 1 ≤ 4294967296) :
    ∃ A' c' w', (Builtin.append_ #[22, 22] 22 #[.slice A n c, .slice (some ⟨w.heap.size, 0, none⟩) 1 1]).run Try.prog (w.alloc (.cells #[.int .u8 (x.toNat : Int)] 5)) = .ok (.slice A' (n + 1) c') w' ∧
      OwnB w' w0.heap.size A' (n + 1) c' (l ++ [x]) ∧ Below w0.heap.size w0 w' := by
  have hsz := hb.size
  obtain ⟨A2, c2, w2, hrun, own2, hg2, _⟩ := run_append8 (P := Try.prog) 22 22 Try.underlying22 u8_info (own.alloc (.cells #[.int .u8 (x.toNat : Int)] 5)) (BS.lit rfl [x] _ 5 (0, 0) rfl) 1 1 rfl (by omega) (by simp; omega)
  exact ⟨A2, c2, w2, hrun, own2, (own.alloc (.cells #[.int .u8 (x.toNat : Int)] 5)).bel (hb.alloc hsz _) hg2 (by simp; omega)⟩
/-- The same behind a draw. -/
theorem snoc8D {w0 w : World} {A : Option Addr} {n c : Nat} {l : List UInt8} (own : OwnB w w0.heap.size A n c l) (hb : Below w0.heap.size w0 w) (x : UInt8) (hl : n + 1 ≤ 4294967296) :
    ∃ A' c' w', (Builtin.append_ #[22, 22] 22 #[.slice A n c, .slice (some ⟨w.heap.size, 0, none⟩) 1 1]).run Try.prog (w.alloc (.cells #[.int .u8 (x.toNat : Int)] 5)).drew = .ok (.slice A' (n + 1) c') w' ∧
      OwnB w' w0.heap.size A' (n + 1) c' (l ++ [x]) ∧ Below w0.heap.size w0 w' := by
  have hsz := hb.size
  obtain ⟨A2, c2, w2, hrun, own2, hg2, _⟩ := run_append8 (P := Try.prog) 22 22 Try.underlying22 u8_info (own.alloc (.cells #[.int .u8 (x.toNat : Int)] 5)).drew (BS.lit rfl [x] _ 5 (0, 0) rfl).drew 1 1 rfl (by omega) (by simp; omega)
  exact ⟨A2, c2, w2, hrun, own2, (own.alloc (.cells #[.int .u8 (x.toNat : Int)] 5)).drew.bel (hb.alloc hsz _).drew hg2 (by simp; omega)⟩

/-- What the reference's decoding returns. -/
def DecSRet (l : List UInt8) (w : World) (e : Ending) (w' : World) : Prop := ∃ A' c', e = .returned (.slice A' (unesc l).length c') ∧ BS w' A' (unesc l) ∧ Below w.heap.size w w'

set_option maxHeartbeats 4000000 in
theorem decodeS (A : Option Addr) (l : List UInt8) (c : Nat) (w : World) (hs : BS w A l) (h1 : l.length ≤ 2147483647) :
    Calls Try.prog 9 #[.slice A l.length c] w (DecSRet l w) := by
  go_enter Try.func9, Try.ntmps9
  go_wp2
  go_loopw [3, 4] (fun v i wr => ∃ (k n : Nat) (A' : Option Addr) (c' : Nat) (out : List UInt8), n ≤ k ∧ k ≤ l.length ∧ i = .int .i64 k ∧ v = .slice A' n c' ∧ OwnB wr w.heap.size A' n c' out ∧ Hid (out ++ unesc (l.drop k) = unesc l) ∧ Below w.heap.size w wr)
    (fun _ i _ => l.length - (intOf i).toNat)
  case atStart => exact ⟨0, 0, _, _, [], Nat.le_refl _, Nat.zero_le _, rfl, rfl, OwnB.empty w (Nat.le_refl _) rfl, hide rfl, (Below.refl _ _).alloc (Nat.le_refl _) _⟩
  case round =>
    obtain ⟨k, n, A', c', out, hnk, hk, rfl, rfl, own, ho, hbel⟩ := hrel
    by_cases hlt : k < l.length
    · obtain ⟨d, hd⟩ : ∃ x, l[k]? = some x := ⟨_, List.getElem?_eq_getElem hlt⟩
      obtain ⟨b1, o1, rfl, cell0⟩ := (hs.below hbel).at_ hd
      have hsz := hbel.size
      obtain ⟨A2, c2, w2, hrun, own2, hbel2⟩ := snoc8 own hbel d (by omega)
      have Hrun := hide hrun
      clear hrun
      have Hd := hide hd
      by_cases h37 : d = 37
      · have d37 : ((d.toNat : Int) == 37) = true := by rw [h37]; rfl
        by_cases h2 : k + 2 < l.length
        · have b2 : decide ((k : Int) + 2 < (l.length : Int)) = true := by rw [decide_eq_true_eq]; omega
          obtain ⟨a, ha⟩ : ∃ x, l[k + 1]? = some x := ⟨_, List.getElem?_eq_getElem (by omega)⟩
          obtain ⟨b, hb⟩ : ∃ x, l[k + 2]? = some x := ⟨_, List.getElem?_eq_getElem (by omega)⟩
          obtain ⟨b1', o1', e1, cell1⟩ := (hs.below hbel).at_ ha
          simp only [Option.some.injEq, Addr.mk.injEq, and_true] at e1
          obtain ⟨rfl, rfl⟩ := e1
          obtain ⟨b1', o1', e1, cell2⟩ := (hs.below hbel).at_ hb
          simp only [Option.some.injEq, Addr.mk.injEq, and_true] at e1
          obtain ⟨rfl, rfl⟩ := e1
          cases hxa : isHex a with
          | false =>
            have Ho2 := hide (out_miss hd (by rw [hit_at hd ha hb, hxa]; simp) ho.out)
            have Hxa := hide hxa
            clear hd ha hb h37 hxa hbel own ho
            go_wp2_with (first
              | (go_at_call 14; (with_reducible refine (hexS_no _ _ Hxa.out).mono ?_); rintro e w' ⟨rfl, rfl⟩)
              | (at_builtin; (with_reducible refine wpList_append_runG Hrun.out _ _ ?_ rfl rfl ?_ ?_ ?_); (rfl); (rfl); (rfl)))
            go_roundw
            case rel => exact ⟨k + 1, n + 1, A2, c2, _, by omega, by omega, by go_num, rfl, own2, Ho2, hbel2⟩
            case measure => simp [intOf]; omega
          | true =>
            have va := hexV_lt hxa
            cases hxb : isHex b with
            | false =>
              have Ho2 := hide (out_miss hd (by rw [hit_at hd ha hb, hxb]; simp) ho.out)
              have Hxa := hide hxa
              have Hxb := hide hxb
              clear hd ha hb h37 hxa hxb hbel own ho
              go_wp2_with (first
                | (go_at_call 14; (with_reducible refine (hexS_yes _ _ _ Hxa.out rfl).mono ?_); rintro e w' ⟨rfl, rfl⟩)
                | (go_at_call 14; (with_reducible refine (hexS_no _ _ Hxb.out).mono ?_); rintro e w' ⟨rfl, rfl⟩)
                | (at_builtin; (with_reducible refine wpList_append_runG Hrun.out _ _ ?_ rfl rfl ?_ ?_ ?_); (rfl); (rfl); (rfl)))
              go_roundw
              case rel => exact ⟨k + 1, n + 1, A2, c2, _, by omega, by omega, by go_num, rfl, own2, Ho2, hbel2⟩
              case measure => simp [intOf]; omega
            | true =>
              have vb := hexV_lt hxb
              have hB := (hexB a b).toNat_lt
              have hBv := hexB_toNat hxa hxb
              have Hxa := hide hxa
              have Hxb := hide hxb
              have Ho2 := hide (out_hit hd ha hb (by rw [hit_at hd ha hb, hxa, hxb, h37]; rfl) ho.out)
              obtain ⟨A3, c3, w3, hrun, own3, hbel3⟩ := snoc8D own hbel (hexB a b) (by omega)
              have Hrun3 := hide hrun
              have s1 : IntKind.i64.wrap ((k : Int) + 1) = (k : Int) + 1 := IntWalk.i64_in _ (by omega)
              have s2 : IntKind.i64.wrap ((k : Int) + 2) = (k : Int) + 2 := IntWalk.i64_in _ (by omega)
              have s3 : IntKind.i64.wrap (16 * ((hexV a : Nat) : Int)) = 16 * ((hexV a : Nat) : Int) := IntWalk.i64_in _ (by omega)
              have s4 : IntKind.i64.wrap (16 * ((hexV a : Nat) : Int) + ((hexV b : Nat) : Int)) = (((hexB a b).toNat : Nat) : Int) := by rw [IntWalk.i64_in _ (by omega)]; omega
              have s5 : IntKind.u8.wrap (((hexB a b).toNat : Nat) : Int) = (((hexB a b).toNat : Nat) : Int) := by rw [IntKind.wrap_u8]; omega
              clear hd ha hb h37 hxa hxb hbel own ho hrun hBv own2 hbel2
              have S := hide (And.intro s1 (And.intro s2 (And.intro s3 (And.intro s4 s5))))
              clear s1 s2 s3 s4 s5
              go_wp2_with (first
                | (go_at_call 14; (with_reducible refine (hexS_yes _ _ _ Hxa.out rfl).mono ?_); rintro e w' ⟨rfl, rfl⟩)
                | (go_at_call 14; (with_reducible refine (hexS_yes _ _ _ Hxb.out rfl).mono ?_); rintro e w' ⟨rfl, rfl⟩))
              obtain ⟨s1, s2, s3, s4, s5⟩ := S.out
              have t1 : 0 ≤ (k : Int) + 1 := by omega
              have t2 : 0 ≤ (k : Int) + 2 := by omega
              have t3 : ((k : Int) + 1).toNat = k + 1 := by omega
              have t4 : ((k : Int) + 2).toNat = k + 2 := by omega
              have t5 : (k : Int) + 1 < (l.length : Int) := by omega
              have t6 : (k : Int) + 2 < (l.length : Int) := by omega
              clear S
              go_region_law (first
                | ((with_reducible refine step_append_runG Hrun3.out _ _ ?_ rfl rfl ?_ ?_ ?_); (rfl); (rfl); (rfl))
                | (go_simp; go_at_call 14; (with_reducible refine (hexS_yes _ _ _ Hxa.out rfl).mono ?_); rintro e w' ⟨rfl, rfl⟩)
                | (go_simp; go_at_call 14; (with_reducible refine (hexS_yes _ _ _ Hxb.out rfl).mono ?_); rintro e w' ⟨rfl, rfl⟩))
              all_goals clear s1 s2 s3 s4 s5 t1 t2 t3 t4 t5 t6
              all_goals
                go_wp2
                go_roundw
                case rel => exact ⟨k + 3, n + 1, A3, c3, _, by omega, by omega, by go_num, rfl, own3, Ho2, hbel3⟩
                case measure => simp [intOf]; omega
        · have b2 : decide ((k : Int) + 2 < (l.length : Int)) = false := by rw [decide_eq_false_iff_not]; omega
          have Ho2 := hide (out_miss hd (hit_short (by omega)) ho.out)
          clear hd h37 hbel own ho
          go_wp2_with (at_builtin; (with_reducible refine wpList_append_runG Hrun.out _ _ ?_ rfl rfl ?_ ?_ ?_); (rfl); (rfl); (rfl))
          go_roundw
          case rel => exact ⟨k + 1, n + 1, A2, c2, _, by omega, by omega, by go_num, rfl, own2, Ho2, hbel2⟩
          case measure => simp [intOf]; omega
      · have d37 : ((d.toNat : Int) == 37) = false := by
          rw [beq_eq_false_iff_ne]
          intro e
          exact h37 (UInt8.toNat_inj.1 (by simp; omega))
        have Ho2 := hide (out_miss hd (hit_not hd h37) ho.out)
        clear hd h37 hbel own ho
        go_wp2_with (at_builtin; (with_reducible refine wpList_append_runG Hrun.out _ _ ?_ rfl rfl ?_ ?_ ?_); (rfl); (rfl); (rfl))
        go_roundw
        case rel => exact ⟨k + 1, n + 1, A2, c2, _, by omega, by omega, by go_num, rfl, own2, Ho2, hbel2⟩
        case measure => simp [intOf]; omega
    · have hoe := out_end (by omega) ho.out
      subst hoe
      have Hl := hide own.len
      clear ho
      go_wp2
      go_ret
      refine ⟨A', c', ?_, own.bs, hbel⟩
      rw [Hl.out]; rfl
end Go.Proofs.Yteinmabdkkddiaa
