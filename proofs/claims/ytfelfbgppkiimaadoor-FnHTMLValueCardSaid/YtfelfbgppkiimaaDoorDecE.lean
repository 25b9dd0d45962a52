/- The reference's reading of entities. Condition: the text is shorter than 2^31, and within its capacity. -/
import Derived.Test.YtfelfbgppkiimaaDoorEsc
import Derived.Test.YtfelfbgppkiimaaDoorSnoc
import Derived.Test.YtfelfbgppkiimaaDoorInpl
import Derived.Laws.Strings
namespace Go.Proofs.YtfelfbgppkiimaaDoor
open Go.RowKit
set_option linter.unusedVariables false

theorem isPre_take {q l : List UInt8} : isPre q l = (l.take q.length == q) := by
  unfold isPre
  rw [Bool.eq_iff_iff, List.isPrefixOf_iff_prefix, beq_iff_eq, List.prefix_iff_eq_take]
  exact ⟨fun h => h.symm, fun h => h.symm⟩
theorem isPre_short {q l : List UInt8} (h : l.length < q.length) : isPre q l = false := by
  rw [isPre_take, beq_eq_false_iff_ne]
  intro e
  have := congrArg List.length e
  rw [List.length_take] at this
  omega

set_option maxHeartbeats 400000 in
theorem hasHere_any (A : Option Addr) (l : List UInt8) (c k n : Nat) (s : ByteArray) (q : List UInt8) (r : Bool) (w : World) (hs : BS w A l) (hn : s.size = n) (hq : s.data.toList = q) (hql : q.length = n) (h1 : l.length ≤ 2147483647) (h2 : l.length ≤ c) (hk : k ≤ l.length) (hn2 : n ≤ 1000) (hr : isPre q (l.drop k) = r) :
    Calls Tryd.prog 16 #[.slice A l.length c, .int .i64 (k : Int), .string s] w fun e w' => e = .returned (.bool r) ∧ w = w' := by
  by_cases hf : k + n ≤ l.length
  · obtain ⟨A', hrun, hbs⟩ := run_cutA (P := Tryd.prog) 22 Tryd.underlying22 (by kernel_rfl) hs l.length c k (k + n) (k : Int) ((k : Int) + (n : Int)) rfl (by simp) rfl (by omega) hf h2
    rw [show k + n - k = n by omega] at hrun hbs
    have hlen : ((l.drop k).take n).length = n := by simp; omega
    have hcv := run_str (P := Tryd.prog) hbs (c - k) 22 9 5 Tryd.underlying22 Tryd.underlying5 Tryd.underlying9
    rw [hlen] at hcv
    have Hrun := hide hrun
    have Hr := hide (show ((l.drop k).take n == s.toList) = r by
      rw [← hr, isPre_take, hql, ByteArray.toList_eq, hq])
    have hf2 : decide ((k : Int) + (n : Int) ≤ (l.length : Int)) = true := by rw [decide_eq_true_eq]; omega
    have hsz : ((s.size : Nat) : Int) = (n : Int) := by rw [hn]
    clear hrun hr hbs hq hql hlen hn
    go_enter Tryd.func16, Tryd.ntmps16
    go_wp2_with ((with_reducible refine wpList_slice_runO (Hrun.out .i64 .i64 _) _ _ _ ?_ rfl ?_ ?_ ?_ ?_); (rfl); (rfl); (rfl); (rfl))
    go_ret
    exact ⟨ret_bool (by have := Hr.out; exact this), rfl⟩
  · have hf2 : decide ((k : Int) + (n : Int) ≤ (l.length : Int)) = false := by rw [decide_eq_false_iff_not]; omega
    have hsz : ((s.size : Nat) : Int) = (n : Int) := by rw [hn]
    have Hr := hide (show false = r by rw [← hr]; exact (isPre_short (by simp; omega)).symm)
    clear hr hn hq hql
    go_enter Tryd.func16, Tryd.ntmps16
    go_wp2
    go_ret
    exact ⟨ret_bool (by rw [← Hr.out]), rfl⟩
theorem outE_hit {l out t : List UInt8} {k n : Nat} {d : UInt8} (hk : k < l.length) (h : dec1 (l.drop k) = some (d, n)) (ht : out ++ decE (l.drop k) = t) : (out ++ [d]) ++ decE (l.drop (k + n)) = t := by
  rw [decE_hit (by intro e; have := congrArg List.length e; simp at this; omega) h, List.drop_drop] at ht
  rw [List.append_assoc]
  exact ht
theorem outE_miss {l out t : List UInt8} {k : Nat} {c : UInt8} (hc : l[k]? = some c) (h : dec1 (l.drop k) = none) (ht : out ++ decE (l.drop k) = t) : (out ++ [c]) ++ decE (l.drop (k + 1)) = t := by
  obtain ⟨hi, e⟩ := List.getElem?_eq_some_iff.1 hc
  rw [List.drop_eq_getElem_cons hi, e] at h ht
  rw [decE_miss h] at ht
  rw [List.append_assoc]
  exact ht
theorem outE_end {l out t : List UInt8} {k : Nat} (hl : l.length ≤ k) (ht : out ++ decE (l.drop k) = t) : out = t := by
  rw [List.drop_of_length_le hl, decE_nil, List.append_nil] at ht
  exact ht
theorem pre_fits {q l : List UInt8} {k : Nat} (h : isPre q (l.drop k) = true) (hk : k ≤ l.length) : k + q.length ≤ l.length := by
  rcases Nat.lt_or_ge (l.length) (k + q.length) with hlt | hge
  · rw [isPre_short (by rw [List.length_drop]; omega)] at h
    cases h
  · exact hge
/-- What reading returns. -/
def DecERet (l : List UInt8) (w : World) (e : Ending) (w' : World) : Prop := ∃ A' c', e = .returned (.slice A' (decE l).length c') ∧ BS w' A' (decE l) ∧ Below w.heap.size w w'

set_option maxHeartbeats 4000000 in
theorem decE_any (A : Option Addr) (l : List UInt8) (c n0 : Nat) (w : World) (hs : BS w A l) (hn0 : l.length = n0) (h1 : n0 ≤ 2147483647) (h2 : n0 ≤ c) :
    Calls Tryd.prog 11 #[.slice A n0 c] w (DecERet l w) := by
  subst hn0
  go_enter Tryd.func11, Tryd.ntmps11
  go_wp2
  go_loopw [3, 4] (fun v i wr => ∃ (k n : Nat) (A' : Option Addr) (c' : Nat) (out : List UInt8), n ≤ k ∧ k ≤ l.length ∧ i = .int .i64 k ∧ v = .slice A' n c' ∧ OwnB wr w.heap.size A' n c' out ∧ Hid (out ++ decE (l.drop k) = decE l) ∧ Below w.heap.size w wr)
    (fun _ i _ => l.length - (intOf i).toNat)
  case atStart => exact ⟨0, 0, _, _, [], Nat.le_refl _, Nat.zero_le _, rfl, rfl, OwnB.empty w (Nat.le_refl _) rfl, hide rfl, (Below.refl _ _).alloc (Nat.le_refl _) _⟩
  case round =>
    obtain ⟨k, n, A', c', out, hnk, hk, rfl, rfl, own, ho, hbel⟩ := hrel
    by_cases hlt : k < l.length
    · have hsb := hs.below hbel
      cases pent34 : isPre ent34 (l.drop k) with
      | true =>
        have Pent34 := hide pent34
        have hd : dec1 (l.drop k) = some (34, 5) := by unfold dec1; rw [if_pos Pent34.out]
        have hfit : k + 5 ≤ l.length := pre_fits (q := ent34) pent34 hk
        have Ho2 := hide (outE_hit hlt hd ho.out)
        obtain ⟨A2, c2, w2, hrun, own2, hbel2⟩ := snoc8 own hbel 34 (by omega)
        have Hrun := hide hrun
        clear hrun pent34 hd own hbel ho
        go_wp2_with (first
          | (go_at_call 16; (with_reducible refine (hasHere_any _ l _ k 5 ⟨#[38, 35, 51, 52, 59]⟩ ent34 true _ hsb rfl rfl rfl h1 h2 hk (by decide) Pent34.out).mono ?_); rintro e w' ⟨rfl, rfl⟩)
          | (at_builtin; (with_reducible refine wpList_append_runG Hrun.out _ _ ?_ rfl rfl ?_ ?_ ?_); (rfl); (rfl); (rfl)))
        go_roundw
        case rel => exact ⟨k + 5, n + 1, A2, c2, _, by omega, by omega, by go_num, rfl, own2, Ho2, hbel2⟩
        case measure => simp [intOf]; omega
      | false =>
        have Pent34 := hide pent34
        clear pent34
        cases pent39 : isPre ent39 (l.drop k) with
        | true =>
          have Pent39 := hide pent39
          have hd : dec1 (l.drop k) = some (39, 5) := by unfold dec1; rw [if_neg (by rw [Pent34.out]; simp)]; rw [if_pos Pent39.out]
          have hfit : k + 5 ≤ l.length := pre_fits (q := ent39) pent39 hk
          have Ho2 := hide (outE_hit hlt hd ho.out)
          obtain ⟨A2, c2, w2, hrun, own2, hbel2⟩ := snoc8 own hbel 39 (by omega)
          have Hrun := hide hrun
          clear hrun pent39 hd own hbel ho
          go_wp2_with (first
            | (go_at_call 16; (with_reducible refine (hasHere_any _ l _ k 5 ⟨#[38, 35, 51, 52, 59]⟩ ent34 false _ hsb rfl rfl rfl h1 h2 hk (by decide) Pent34.out).mono ?_); rintro e w' ⟨rfl, rfl⟩)
            | (go_at_call 16; (with_reducible refine (hasHere_any _ l _ k 5 ⟨#[38, 35, 51, 57, 59]⟩ ent39 true _ hsb rfl rfl rfl h1 h2 hk (by decide) Pent39.out).mono ?_); rintro e w' ⟨rfl, rfl⟩)
            | (at_builtin; (with_reducible refine wpList_append_runG Hrun.out _ _ ?_ rfl rfl ?_ ?_ ?_); (rfl); (rfl); (rfl)))
          go_roundw
          case rel => exact ⟨k + 5, n + 1, A2, c2, _, by omega, by omega, by go_num, rfl, own2, Ho2, hbel2⟩
          case measure => simp [intOf]; omega
        | false =>
          have Pent39 := hide pent39
          clear pent39
          cases pentLt : isPre entLt (l.drop k) with
          | true =>
            have PentLt := hide pentLt
            have hd : dec1 (l.drop k) = some (60, 4) := by unfold dec1; rw [if_neg (by rw [Pent34.out]; simp)]; rw [if_neg (by rw [Pent39.out]; simp)]; rw [if_pos PentLt.out]
            have hfit : k + 4 ≤ l.length := pre_fits (q := entLt) pentLt hk
            have Ho2 := hide (outE_hit hlt hd ho.out)
            obtain ⟨A2, c2, w2, hrun, own2, hbel2⟩ := snoc8 own hbel 60 (by omega)
            have Hrun := hide hrun
            clear hrun pentLt hd own hbel ho
            go_wp2_with (first
              | (go_at_call 16; (with_reducible refine (hasHere_any _ l _ k 5 ⟨#[38, 35, 51, 52, 59]⟩ ent34 false _ hsb rfl rfl rfl h1 h2 hk (by decide) Pent34.out).mono ?_); rintro e w' ⟨rfl, rfl⟩)
              | (go_at_call 16; (with_reducible refine (hasHere_any _ l _ k 5 ⟨#[38, 35, 51, 57, 59]⟩ ent39 false _ hsb rfl rfl rfl h1 h2 hk (by decide) Pent39.out).mono ?_); rintro e w' ⟨rfl, rfl⟩)
              | (go_at_call 16; (with_reducible refine (hasHere_any _ l _ k 4 ⟨#[38, 108, 116, 59]⟩ entLt true _ hsb rfl rfl rfl h1 h2 hk (by decide) PentLt.out).mono ?_); rintro e w' ⟨rfl, rfl⟩)
              | (at_builtin; (with_reducible refine wpList_append_runG Hrun.out _ _ ?_ rfl rfl ?_ ?_ ?_); (rfl); (rfl); (rfl)))
            go_roundw
            case rel => exact ⟨k + 4, n + 1, A2, c2, _, by omega, by omega, by go_num, rfl, own2, Ho2, hbel2⟩
            case measure => simp [intOf]; omega
          | false =>
            have PentLt := hide pentLt
            clear pentLt
            cases pentAmp : isPre entAmp (l.drop k) with
            | true =>
              have PentAmp := hide pentAmp
              have hd : dec1 (l.drop k) = some (38, 5) := by unfold dec1; rw [if_neg (by rw [Pent34.out]; simp)]; rw [if_neg (by rw [Pent39.out]; simp)]; rw [if_neg (by rw [PentLt.out]; simp)]; rw [if_pos PentAmp.out]
              have hfit : k + 5 ≤ l.length := pre_fits (q := entAmp) pentAmp hk
              have Ho2 := hide (outE_hit hlt hd ho.out)
              obtain ⟨A2, c2, w2, hrun, own2, hbel2⟩ := snoc8 own hbel 38 (by omega)
              have Hrun := hide hrun
              clear hrun pentAmp hd own hbel ho
              go_wp2_with (first
                | (go_at_call 16; (with_reducible refine (hasHere_any _ l _ k 5 ⟨#[38, 35, 51, 52, 59]⟩ ent34 false _ hsb rfl rfl rfl h1 h2 hk (by decide) Pent34.out).mono ?_); rintro e w' ⟨rfl, rfl⟩)
                | (go_at_call 16; (with_reducible refine (hasHere_any _ l _ k 5 ⟨#[38, 35, 51, 57, 59]⟩ ent39 false _ hsb rfl rfl rfl h1 h2 hk (by decide) Pent39.out).mono ?_); rintro e w' ⟨rfl, rfl⟩)
                | (go_at_call 16; (with_reducible refine (hasHere_any _ l _ k 4 ⟨#[38, 108, 116, 59]⟩ entLt false _ hsb rfl rfl rfl h1 h2 hk (by decide) PentLt.out).mono ?_); rintro e w' ⟨rfl, rfl⟩)
                | (go_at_call 16; (with_reducible refine (hasHere_any _ l _ k 5 ⟨#[38, 97, 109, 112, 59]⟩ entAmp true _ hsb rfl rfl rfl h1 h2 hk (by decide) PentAmp.out).mono ?_); rintro e w' ⟨rfl, rfl⟩)
                | (at_builtin; (with_reducible refine wpList_append_runG Hrun.out _ _ ?_ rfl rfl ?_ ?_ ?_); (rfl); (rfl); (rfl)))
              go_roundw
              case rel => exact ⟨k + 5, n + 1, A2, c2, _, by omega, by omega, by go_num, rfl, own2, Ho2, hbel2⟩
              case measure => simp [intOf]; omega
            | false =>
              have PentAmp := hide pentAmp
              clear pentAmp
              obtain ⟨d, hd⟩ : ∃ x, l[k]? = some x := ⟨_, List.getElem?_eq_getElem hlt⟩
              obtain ⟨b1, o1, rfl, cell0⟩ := hsb.at_ hd
              have hn : dec1 (l.drop k) = none := by unfold dec1; rw [if_neg (by rw [Pent34.out]; simp)]; rw [if_neg (by rw [Pent39.out]; simp)]; rw [if_neg (by rw [PentLt.out]; simp)]; rw [if_neg (by rw [PentAmp.out]; simp)]
              have Ho2 := hide (outE_miss hd hn ho.out)
              obtain ⟨A2, c2, w2, hrun, own2, hbel2⟩ := snoc8 own hbel d (by omega)
              have Hrun := hide hrun
              clear hrun hd hn own hbel ho
              go_wp2_with (first
                | (go_at_call 16; (with_reducible refine (hasHere_any _ l _ k 5 ⟨#[38, 35, 51, 52, 59]⟩ ent34 false _ hsb rfl rfl rfl h1 h2 hk (by decide) Pent34.out).mono ?_); rintro e w' ⟨rfl, rfl⟩)
                | (go_at_call 16; (with_reducible refine (hasHere_any _ l _ k 5 ⟨#[38, 35, 51, 57, 59]⟩ ent39 false _ hsb rfl rfl rfl h1 h2 hk (by decide) Pent39.out).mono ?_); rintro e w' ⟨rfl, rfl⟩)
                | (go_at_call 16; (with_reducible refine (hasHere_any _ l _ k 4 ⟨#[38, 108, 116, 59]⟩ entLt false _ hsb rfl rfl rfl h1 h2 hk (by decide) PentLt.out).mono ?_); rintro e w' ⟨rfl, rfl⟩)
                | (go_at_call 16; (with_reducible refine (hasHere_any _ l _ k 5 ⟨#[38, 97, 109, 112, 59]⟩ entAmp false _ hsb rfl rfl rfl h1 h2 hk (by decide) PentAmp.out).mono ?_); rintro e w' ⟨rfl, rfl⟩)
                | (at_builtin; (with_reducible refine wpList_append_runG Hrun.out _ _ ?_ rfl rfl ?_ ?_ ?_); (rfl); (rfl); (rfl)))
              go_roundw
              case rel => exact ⟨k + 1, n + 1, A2, c2, _, by omega, by omega, by go_num, rfl, own2, Ho2, hbel2⟩
              case measure => simp [intOf]; omega
    · have hoe := outE_end (by omega) ho.out
      subst hoe
      have Hl := hide own.len
      clear ho
      go_wp2
      go_ret
      refine ⟨A', c', ?_, own.bs, hbel⟩
      rw [Hl.out]; rfl
end Go.Proofs.YtfelfbgppkiimaaDoor
