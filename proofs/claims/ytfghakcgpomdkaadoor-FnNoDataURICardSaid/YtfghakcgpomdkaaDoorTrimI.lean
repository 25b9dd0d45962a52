/- The package's trimming: the slice that it returns reads as the trimmed text. Conditions: the table's cells; the list is shorter than 2^31 and within its capacity. -/
import Derived.Test.YtfghakcgpomdkaaDoorTrimS
import Derived.Test.YtfghakcgpomdkaaDoorInpl
namespace Go.Proofs.YtfghakcgpomdkaaDoor
open Go.RowKit
set_option linter.unusedVariables false

set_option maxHeartbeats 400000 in
theorem trimI_nil (A : Option Addr) (c : Nat) (w : World) :
    Calls Tryd.prog 10 #[.slice A 0 c] w (TrimRet [] w) := by
  obtain ⟨A', hrun, hbs⟩ := run_cutA (P := Tryd.prog) 22 Tryd.underlying22 (by kernel_rfl) (BS.nil w A) 0 c 0 0 0 0 rfl rfl rfl (Nat.le_refl _) (by omega) (by omega)
  have Hrun := hide hrun
  clear hrun
  go_enter Tryd.func10, Tryd.ntmps10
  go_wp2
  go_loop [4, 5] (fun s i => s = .int .i64 0 ∧ i = .int .i64 0) (fun _ i => 0)
  case atStart => exact ⟨rfl, rfl⟩
  case round =>
    obtain ⟨rfl, rfl⟩ := hrel
    go_wp2
    go_loop [6, 7] (fun s i => s = .int .i64 0 ∧ i = .int .i64 (-1)) (fun _ i => 0)
    case atStart => exact ⟨rfl, rfl⟩
    case round =>
      obtain ⟨rfl, rfl⟩ := hrel
      go_wp2_with (refine wpList_slice_run (Hrun.out .i64 .i64 _) rfl _ _ _ rfl rfl rfl rfl ?_)
      go_ret
      exact ⟨A', _, rfl, BS.nil _ _, rfl⟩

/-- All blanks: the trimmed text is empty. -/
theorem trim_blank {l : List UInt8} (h : AllTo isBl l l.length) : (l.drop l.length).take (l.length - l.length) = trim l :=
  trim_cut (Nat.le_refl _) (Nat.le_refl _) h (AllFrom.end_ _ _) (fun c hc => by rw [List.getElem?_eq_none (Nat.le_refl _)] at hc; cases hc) (fun h => absurd h (by omega))

set_option maxHeartbeats 1000000 in
theorem trimI_some (b o : Nat) (l : List UInt8) (c : Nat) (w : World) (hs : BS w (some ⟨b, o, none⟩) l) (h1 : l.length ≤ 2147483647) (h2 : l.length ≤ c) (h0 : 0 < l.length) (ht : WsTab w) :
    Calls Tryd.prog 10 #[.slice (some ⟨b, o, none⟩) l.length c] w (TrimRet l w) := by
  have hcell : ∀ {k : Nat} {d : UInt8}, l[k]? = some d → w.cell? ⟨b, o + k, none⟩ = some (.int .u8 (d.toNat : Int)) := fun {k d} hd => by
    obtain ⟨b1, o1, e, cell1⟩ := hs.at_ hd
    simp only [Option.some.injEq, Addr.mk.injEq, and_true] at e
    obtain ⟨rfl, rfl⟩ := e
    exact cell1
  have Hcell := @hide _ @hcell
  have Ht := hide ht
  clear hcell ht
  go_enter Tryd.func10, Tryd.ntmps10
  go_wp2
  go_loop [4, 5] (fun s i => ∃ k : Nat, k ≤ l.length ∧ s = .int .i64 (l.length : Int) ∧ i = .int .i64 k ∧ AllTo isBl l k) (fun _ i => l.length - (intOf i).toNat)
  case atStart => exact ⟨0, Nat.zero_le _, rfl, rfl, AllTo.zero _ _⟩
  case round =>
    obtain ⟨k, hk, rfl, rfl, hto⟩ := hrel
    by_cases hlt : k < l.length
    · obtain ⟨d, hd⟩ : ∃ d, l[k]? = some d := ⟨_, List.getElem?_eq_getElem hlt⟩
      have cell1 := Hcell.out hd
      cases hb : isBl d with
      | true =>
        have Hb := hide hb
        have Hto := hide (hto.succ hd hb)
        clear hd hb hto
        go_wp2_with (go_at_call 16; refine (isWs_n _ true _ Hb.out Ht.out).mono ?_; rintro e w' ⟨rfl, rfl⟩)
        go_round
        case rel => exact ⟨k + 1, by omega, rfl, by go_num, Hto.out⟩
        case measure => simp [intOf]; omega
      | false =>
        have Hna := hide (show NotAt isBl l k from fun c hc => by rw [hd] at hc; cases hc; exact hb)
        have Hb := hide hb
        have Hd := hide hd
        have Hto := hide hto
        clear hd hb hto
        go_wp2_with (go_at_call 16; refine (isWs_n _ false _ Hb.out Ht.out).mono ?_; rintro e w' ⟨rfl, rfl⟩)
        clear cell1
        go_loop [7] (fun i => ∃ j : Nat, k ≤ j ∧ j < l.length ∧ i = .int .i64 j ∧ AllFrom isBl l (j + 1)) (fun i => (intOf i).toNat)
        case atStart => exact ⟨l.length - 1, by omega, by omega, by go_num, by rw [show l.length - 1 + 1 = l.length by omega]; exact AllFrom.end_ _ _⟩
        case round =>
          obtain ⟨j, hkj, hj, rfl, hfr⟩ := hrel
          obtain ⟨x, hx⟩ : ∃ d, l[j]? = some d := ⟨_, List.getElem?_eq_getElem hj⟩
          have cell2 := Hcell.out hx
          cases hbx : isBl x with
          | true =>
            have hne : k < j := by
              rcases Nat.eq_or_lt_of_le hkj with e | e
              · exfalso
                subst e
                have := Hna.out x hx
                rw [hbx] at this
                cases this
              · exact e
            obtain ⟨j', rfl⟩ : ∃ j', j = j' + 1 := ⟨j - 1, by omega⟩
            have Hbx := hide hbx
            have Hfr := hide (hfr.pred hx hbx)
            clear hx hbx hfr
            go_wp2_with (go_at_call 16; refine (isWs_n _ true _ Hbx.out Ht.out).mono ?_; rintro e w' ⟨rfl, rfl⟩)
            go_round
            case rel => exact ⟨j', by omega, by omega, by go_num, Hfr.out⟩
            case measure => simp [intOf]
          | false =>
            have Hc := hide (trim_cut (s := k) (e := j + 1) (by omega) (by omega) Hto.out hfr Hna.out (fun _ c hc => by rw [Nat.add_sub_cancel, hx] at hc; cases hc; exact hbx))
            obtain ⟨A', hrun, hbs⟩ := run_cutA (P := Tryd.prog) 22 Tryd.underlying22 (by kernel_rfl) hs l.length c k (j + 1) (k : Int) ((j : Int) + 1) rfl (by simp) rfl (by omega) (by omega) h2
            have Hrun := hide hrun
            have Hn := hide (trim_len (by omega) (by omega) Hc.out)
            rw [Hc.out] at hbs
            have Hbx := hide hbx
            clear hx hbx hfr hrun
            go_wp2_with (first
              | (go_at_call 16; refine (isWs_n _ false _ Hbx.out Ht.out).mono ?_; rintro e w' ⟨rfl, rfl⟩)
              | (refine wpList_slice_run (Hrun.out .i64 .i64 _) rfl _ _ _ rfl rfl rfl rfl ?_))
            go_ret
            exact ⟨A', _, by rw [Hn.out]; rfl, hbs, rfl⟩
    · obtain rfl : k = l.length := by omega
      have Hc := hide (trim_blank hto)
      obtain ⟨A', hrun, hbs⟩ := run_cutA (P := Tryd.prog) 22 Tryd.underlying22 (by kernel_rfl) hs l.length c l.length l.length (l.length : Int) (l.length : Int) rfl rfl rfl (by omega) (by omega) h2
      have Hrun := hide hrun
      have Hn := hide (trim_len (by omega) (by omega) Hc.out)
      rw [Hc.out] at hbs
      clear hrun hto
      go_wp2
      go_loop [6, 7] (fun s i => s = .int .i64 (l.length : Int) ∧ i = .int .i64 ((l.length : Int) - 1)) (fun _ i => 0)
      case atStart => exact ⟨rfl, rfl⟩
      case round =>
        obtain ⟨rfl, rfl⟩ := hrel
        go_wp2_with (refine wpList_slice_run (Hrun.out .i64 .i64 _) rfl _ _ _ rfl rfl rfl rfl ?_)
        go_ret
        exact ⟨A', _, by rw [Hn.out, Nat.sub_self]; rfl, hbs, rfl⟩

theorem trimI_any (A : Option Addr) (l : List UInt8) (c : Nat) (w : World) (hs : BS w A l) (h1 : l.length ≤ 2147483647) (h2 : l.length ≤ c) (ht : WsTab w) :
    Calls Tryd.prog 10 #[.slice A l.length c] w (TrimRet l w) := by
  rcases Nat.eq_zero_or_pos l.length with h0 | h0
  · obtain rfl : l = [] := List.eq_nil_of_length_eq_zero h0
    exact trimI_nil A c w
  · obtain ⟨b, o, rfl, _, _⟩ := hs.form h0
    exact trimI_some b o l c w hs h1 h2 h0 ht
end Go.Proofs.YtfghakcgpomdkaaDoor
