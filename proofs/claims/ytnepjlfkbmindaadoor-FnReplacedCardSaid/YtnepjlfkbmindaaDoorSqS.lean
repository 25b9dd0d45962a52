/- The reference's squeezing of runs of blanks. Condition: the text is shorter than 2^31. -/
import Derived.Test.YtnepjlfkbmindaaDoorSq
import Derived.Test.YtnepjlfkbmindaaDoorTrimS
import Derived.Test.YtnepjlfkbmindaaDoorSnoc
namespace Go.Proofs.YtnepjlfkbmindaaDoor
open Go.RowKit
set_option linter.unusedVariables false

/-- What stands for the run so far. -/
def mkB (l : List UInt8) (i e : Nat) : UInt8 := if nlAt l i e then 10 else 32
theorem mkB_zero (l : List UInt8) (i : Nat) : mkB l i i = 32 := by unfold mkB; rw [nlAt_zero]; rfl
theorem mkB_nl {l : List UInt8} {i e : Nat} {c : UInt8} (hie : i ≤ e) (h : l[e]? = some c) (hn : isNl c = true) : mkB l i (e + 1) = 10 := by
  unfold mkB; rw [nlAt_next hie h, hn, Bool.or_true]; rfl
theorem mkB_no {l : List UInt8} {i e : Nat} {c m : UInt8} (hie : i ≤ e) (h : l[e]? = some c) (hn : isNl c = false) (hm : mkB l i e = m) : mkB l i (e + 1) = m := by
  subst hm
  unfold mkB; rw [nlAt_next hie h, hn, Bool.or_false]
theorem mkB_mark (l : List UInt8) (i e : Nat) : markAt l i e = mkB l i e := markAt_nl rfl
/-- A blank is an end of a line or none. -/
theorem bl_cases {c : UInt8} (h : isBl c = true) : ((c.toNat = 10 ∨ c.toNat = 13) ∧ isNl c = true) ∨ (c.toNat ≠ 10 ∧ c.toNat ≠ 13 ∧ isNl c = false) := by
  rw [isNl_eq]
  by_cases h1 : c.toNat = 10 ∨ c.toNat = 13
  · exact .inl ⟨h1, by simpa using h1⟩
  · exact .inr ⟨fun e => h1 (.inl e), fun e => h1 (.inr e), by simpa using h1⟩
/-- What squeezing returns. -/
def SqSRet (l : List UInt8) (w : World) (e : Ending) (w' : World) : Prop := ∃ A' c', e = .returned (.slice A' (sq l).length c') ∧ BS w' A' (sq l) ∧ Below w.heap.size w w'
theorem sqo_one {l out t : List UInt8} {k : Nat} {c : UInt8} (h : l[k]? = some c) (hb : isBl c = false) (ht : out ++ sq (l.drop k) = t) : (out ++ [c]) ++ sq (l.drop (k + 1)) = t := by
  rw [sq_one h hb] at ht
  rw [List.append_assoc]
  exact ht
theorem sqo_run {l out t : List UInt8} {k e : Nat} (h : RunAt l k e) (ht : out ++ sq (l.drop k) = t) : (out ++ [mkB l k e]) ++ sq (l.drop e) = t := by
  rw [sq_at h, mkB_mark] at ht
  rw [List.append_assoc]
  exact ht
theorem sqo_end {l out t : List UInt8} {k : Nat} (hl : l.length ≤ k) (ht : out ++ sq (l.drop k) = t) : out = t := by
  rw [List.drop_of_length_le hl, sq_nil, List.append_nil] at ht
  exact ht

set_option maxHeartbeats 4000000 in
theorem sqS_any (A : Option Addr) (l : List UInt8) (c : Nat) (w : World) (hs : BS w A l) (h1 : l.length ≤ 2147483647) :
    Calls Tryd.prog 7 #[.slice A l.length c] w (SqSRet l w) := by
  go_enter Tryd.func7, Tryd.ntmps7
  go_wp2
  go_loopw [3, 4] (fun v i wr => ∃ (k n : Nat) (A' : Option Addr) (c' : Nat) (out : List UInt8), n ≤ k ∧ k ≤ l.length ∧ i = .int .i64 k ∧ v = .slice A' n c' ∧ OwnB wr w.heap.size A' n c' out ∧ Hid (out ++ sq (l.drop k) = sq l) ∧ Below w.heap.size w wr)
    (fun _ i _ => l.length - (intOf i).toNat)
  case atStart => exact ⟨0, 0, _, _, [], Nat.le_refl _, Nat.zero_le _, rfl, rfl, OwnB.empty w (Nat.le_refl _) rfl, hide rfl, (Below.refl _ _).alloc (Nat.le_refl _) _⟩
  case round =>
    obtain ⟨k, n, A', c', out, hnk, hk, rfl, rfl, own, ho, hbel⟩ := hrel
    by_cases hlt : k < l.length
    · obtain ⟨d, hd⟩ : ∃ x, l[k]? = some x := ⟨_, List.getElem?_eq_getElem hlt⟩
      have hsb := hs.below hbel
      obtain ⟨b1, o1, rfl, cell0⟩ := hsb.at_ hd
      cases hb : isBl d with
      | false =>
        obtain ⟨A2, c2, w2, hrun, own2, hbel2⟩ := snoc8 own hbel d (by omega)
        have Hrun := hide hrun
        have Ho2 := hide (sqo_one hd hb ho.out)
        have Hb := hide hb
        clear hrun hd hb hbel own ho hsb
        go_wp2_with (first
          | (go_at_call 15; (with_reducible refine (isBlS_n _ false _ Hb.out).mono ?_); rintro e w' ⟨rfl, rfl⟩)
          | (at_builtin; (with_reducible refine wpList_append_runG Hrun.out _ _ ?_ rfl rfl ?_ ?_ ?_); (rfl); (rfl); (rfl)))
        go_roundw
        case rel => exact ⟨k + 1, n + 1, A2, c2, _, by omega, by omega, by go_num, rfl, own2, Ho2, hbel2⟩
        case measure => simp [intOf]; omega
      | true =>
        have Hcell : Hid (∀ j x, l[j]? = some x → wr.cell? ⟨b1, o1 + j, none⟩ = some (.int .u8 (x.toNat : Int))) := fun j x hx => by
          obtain ⟨b1', o1', e1, cell2⟩ := hsb.at_ hx
          simp only [Option.some.injEq, Addr.mk.injEq, and_true] at e1
          obtain ⟨rfl, rfl⟩ := e1
          exact cell2
        have Hb := hide hb
        have Hd := hide hd
        clear hb hsb hd
        obtain ⟨wo, rfl⟩ : ∃ wo : World, wo = wr := ⟨_, rfl⟩
        go_wp2_with (go_at_call 15; (with_reducible refine (isBlS_n _ true _ Hb.out).mono ?_); rintro e w' ⟨rfl, rfl⟩)
        clear cell0
        go_loop [4, 5] (fun i v => ∃ (e : Nat) (m : UInt8), k ≤ e ∧ e ≤ l.length ∧ i = .int .i64 e ∧ v = .int .u8 (m.toNat : Int) ∧ Hid (BlTo l k e) ∧ Hid (mkB l k e = m)) (fun i _ => l.length - (intOf i).toNat)
        case atStart => exact ⟨k, 32, Nat.le_refl _, by omega, rfl, rfl, hide (BlTo.refl _ _), hide (mkB_zero _ _)⟩
        case round =>
          obtain ⟨e, m, hke, hel, rfl, rfl, hbt, hm⟩ := hrel
          by_cases hc : ∃ x, l[e]? = some x ∧ isBl x = true
          · obtain ⟨x, hx, hxb⟩ := hc
            have hlt2 := (List.getElem?_eq_some_iff.1 hx).1
            have cell1 := Hcell.out e x hx
            have Hxb := hide hxb
            have Hbt := hide (hbt.out.next hx hxb)
            rcases bl_cases hxb with ⟨hn, hn2⟩ | ⟨hn, hn1, hn2⟩
            · have Hm := hide (mkB_nl hke hx hn2)
              clear hx hxb hn2 hbt hm
              rcases hn with hn | hn
              · have t1 : ((x.toNat : Int) == 10) = true := by rw [beq_iff_eq]; omega
                clear hn
                go_wp2_with (go_at_call 15; (with_reducible refine (isBlS_n _ true _ Hxb.out).mono ?_); rintro e w' ⟨rfl, rfl⟩)
                go_round
                case rel => exact ⟨e + 1, 10, by omega, by omega, by go_num, rfl, Hbt, Hm⟩
                case measure => simp [intOf]; omega
              · have t1 : ((x.toNat : Int) == 10) = false := by rw [beq_eq_false_iff_ne]; omega
                have t2 : ((x.toNat : Int) == 13) = true := by rw [beq_iff_eq]; omega
                clear hn
                go_wp2_with (go_at_call 15; (with_reducible refine (isBlS_n _ true _ Hxb.out).mono ?_); rintro e w' ⟨rfl, rfl⟩)
                go_round
                case rel => exact ⟨e + 1, 10, by omega, by omega, by go_num, rfl, Hbt, Hm⟩
                case measure => simp [intOf]; omega
            · have Hm := hide (mkB_no hke hx hn2 hm.out)
              have t1 : ((x.toNat : Int) == 10) = false := by rw [beq_eq_false_iff_ne]; omega
              have t2 : ((x.toNat : Int) == 13) = false := by rw [beq_eq_false_iff_ne]; omega
              clear hx hxb hn2 hn hn1 hbt hm
              go_wp2_with (go_at_call 15; (with_reducible refine (isBlS_n _ true _ Hxb.out).mono ?_); rintro e w' ⟨rfl, rfl⟩)
              go_round
              case rel => exact ⟨e + 1, m, by omega, by omega, by go_num, rfl, Hbt, Hm⟩
              case measure => simp [intOf]; omega
          · have hstop : ∀ x, l[e]? = some x → isBl x = false := fun x hx => by
              cases hb : isBl x with
              | false => rfl
              | true => exact absurd ⟨x, hx, hb⟩ hc
            have hlt2 : k < e := by
              rcases Nat.eq_or_lt_of_le hke with h | h
              · exfalso
                subst h
                have := hstop d Hd.out
                rw [Hb.out] at this
                cases this
              · exact h
            have Ho2 := hide (sqo_run (RunAt.mk' hlt2 hel hbt.out hstop) ho.out)
            rw [hm.out] at Ho2
            obtain ⟨A2, c2, w2, hrun, own2, hbel2⟩ := snoc8 own hbel m (by omega)
            have Hrun := hide hrun
            have hm256 := m.toNat_lt
            clear hrun hc own hbel ho hbt hm
            by_cases hend : e < l.length
            · obtain ⟨x, hx⟩ : ∃ x, l[e]? = some x := ⟨_, List.getElem?_eq_getElem hend⟩
              have cell1 := Hcell.out e x hx
              have Hxb := hide (hstop x hx)
              clear hx hstop
              go_wp2_with (first
                | (go_at_call 15; (with_reducible refine (isBlS_n _ false _ Hxb.out).mono ?_); rintro e w' ⟨rfl, rfl⟩)
                | (at_builtin; (with_reducible refine wpList_append_runG Hrun.out _ _ ?_ rfl rfl ?_ ?_ ?_); (rfl); (rfl); (rfl)))
              go_roundw
              case rel => exact ⟨e, n + 1, A2, c2, _, by omega, by omega, rfl, rfl, own2, Ho2, hbel2⟩
              case measure => simp [intOf]; omega
            · clear hstop
              go_wp2_with (at_builtin; (with_reducible refine wpList_append_runG Hrun.out _ _ ?_ rfl rfl ?_ ?_ ?_); (rfl); (rfl); (rfl))
              go_roundw
              case rel => exact ⟨e, n + 1, A2, c2, _, by omega, by omega, rfl, rfl, own2, Ho2, hbel2⟩
              case measure => simp [intOf]; omega
    · have hoe := sqo_end (by omega) ho.out
      subst hoe
      have Hl := hide own.len
      clear ho
      go_wp2
      go_ret
      refine ⟨A', c', ?_, own.bs, hbel⟩
      rw [Hl.out]; rfl
end Go.Proofs.YtnepjlfkbmindaaDoor
