/- The package's squeezing of runs of blanks, in place. Conditions: the text fills a block of the call's own, the tables' cells lie elsewhere; it is shorter than 2^31. -/
import Derived.Test.YtolcffmfhllfpaaDoorSqS
import Derived.Test.YtolcffmfhllfpaaDoorInpl
import Derived.Deep.RegionLaw
namespace Go.Proofs.YtolcffmfhllfpaaDoor
open Go.RowKit
set_option linter.unusedVariables false

theorem isNl_n (c : UInt8) (b : Bool) (w : World) (hb : isNl c = b) (ht : NlTab w) :
    Calls Tryd.prog 15 #[.int .u8 (c.toNat : Int)] w fun e w' => e = .returned (.bool b) ∧ w = w' := by
  subst hb
  exact isNl_any c w ht
/-- A copy whose run is known, as one step of a region that draws its order. -/
theorem step_copy_runG {P : Program} {ops : Array Oper} {o : Oper} {a : Act} {w : World} {K : Act → World → Prop} {Q : Exit → Act → World → Prop} {E : Prop} {vd vx v' : Value} {w' : World} {T U Y : TypeId}
    (hrun : (Builtin.copy_ #[T, U] Y #[vd, vx]).run P w = .ok v' w') (d x : Operand) (hw : Region.wanted o (yielded ops a.tmps) = true) (hty : o.type = Y)
    (ho : o.op = .call { callee := .builtin .copy, args := #[d, x], argTypes := #[T, U] }) (hd : a.eval d = vd) (hx : a.eval x = vx)
    (hK : K (a.put o.dst v') w') : if Region.wanted o (yielded ops a.tmps) = true then Oper.wp P o a w K Q else E := by
  rw [if_pos hw]
  subst hty
  unfold Oper.wp execOp
  simp only [ho, resolve, invoke, builtin, Sem.run_bind, Sem.run_pure, Result.andThen_ok, List.map_toArray, List.map_cons, List.map_nil, hd, hx, hrun]
  exact hK
/-- What squeezing in place returns. -/
def SqRet (g : Nat) (l : List UInt8) (w : World) (e : Ending) (w' : World) : Prop := ∃ A' c', e = .returned (.slice A' (sq l).length c') ∧ BS w' A' (sq l) ∧ w.grownBy w' (some g)
/-- A move within a block: the run of the copy. -/
theorem run_move8 {w : World} {g : Nat} {cur : List UInt8} (hb : Blk8 w g cur) (j k q : Nat) (hjk : j < k) (hkq : k ≤ q) (hq : q ≤ cur.length) (n m c1 c2 r : Nat) (hn : n = cur.length - j) (hm : m = q - k) (hr : r = q - k) :
    ∃ w', (Builtin.copy_ #[22, 22] 3 #[.slice (some ⟨g, j, none⟩) n c1, .slice (some ⟨g, k, none⟩) m c2]).run Tryd.prog w = .ok (.int .i64 (r : Int)) w' ∧ Blk8 w' g (moved cur j k q) ∧ w.grownBy w' (some g) := by
  subst hn hm hr
  have hl : ((cur.drop k).take (q - k)).length = q - k := by simp; omega
  obtain ⟨w', hrun, hb', hg, _⟩ := run_copy8 (P := Tryd.prog) 22 3 Tryd.underlying22 (by kernel_rfl) hb (hb.bs k (q - k)) j (cur.length - j) c1 c2 (q - k) (by rw [hl]; omega) (by omega)
  rw [hl] at hrun
  rw [← moved_at] at hb'
  exact ⟨w', hrun, hb', hg⟩

set_option maxRecDepth 100000 in
set_option maxHeartbeats 8000000 in
theorem sqI_any (g : Nat) (l : List UInt8) (w : World) (hb0 : Blk8 w g l) (h1 : l.length ≤ 2147483647) (ht : WsTab w) (hn : NlTab w) (hgw : g ≠ 0) (hgn : g ≠ 1) :
    Calls Tryd.prog 12 #[.slice (some ⟨g, 0, none⟩) l.length l.length] w (SqRet g l w) := by
  have Ht : Hid (∀ w', w.grownBy w' (some g) → WsTab w') := fun w' h => ht.grown h (fun e => hgw (by injection e))
  have Hn : Hid (∀ w', w.grownBy w' (some g) → NlTab w') := fun w' h => hn.grown h (fun e => hgn (by injection e))
  clear ht hn hgw hgn
  go_enter Tryd.func12, Tryd.ntmps12
  go_wp2
  go_loopw [3, 4, 5] (fun vj vk vi wr => ∃ (j k i : Nat) (cur : List UInt8), vj = .int .i64 (j : Int) ∧ vk = .int .i64 (k : Int) ∧ vi = .int .i64 (i : Int) ∧ i ≤ l.length + 1 ∧ Hid (SqIn l cur j k (min i l.length)) ∧ Hid (Blk8 wr g cur) ∧ w.grownBy wr (some g))
    (fun _ _ i _ => l.length + 1 - (intOf i).toNat)
  case atStart => exact ⟨0, 0, 0, l, rfl, rfl, rfl, Nat.zero_le _, hide (by simpa using SqIn.start l), hide hb0, World.grownBy.refl _ _⟩
  case round =>
    obtain ⟨j, k, i, cur, rfl, rfl, rfl, hi, hin, hb, hgr⟩ := hrel
    clear hb0
    by_cases hlt : i < l.length
    · have hin1 := hin.out
      rw [Nat.min_eq_left (by omega)] at hin1
      have hbd := hin1.2.2.2.2
      have hcl := hin1.1
      obtain ⟨d, hd⟩ : ∃ x, l[i]? = some x := ⟨_, List.getElem?_eq_getElem hlt⟩
      have cell0 := hb.out.cell ((hin1.at_ (Nat.le_refl _)).trans hd)
      have Hi := hide hin1
      have Hbd := hide hbd
      have Hcl := hide hcl
      clear hin1 hin hbd hcl
      have hjk : j ≤ k ∧ k ≤ i := by have := Hbd.out; omega
      cases hbl : isBl d with
      | false =>
        have Hb := hide hbl
        have Hi2 := hide (Hi.out.one hd hbl)
        rw [show i + 1 = min (i + 1) l.length by omega] at Hi2
        clear hd hbl
        go_wp2_with (go_at_call 14; (with_reducible refine (isWs_n _ false _ Hb.out (Ht.out _ hgr)).mono ?_); rintro e w' ⟨rfl, rfl⟩)
        go_roundw
        case rel => exact ⟨j, k, i + 1, cur, rfl, rfl, by go_num, by omega, Hi2, hb, hgr⟩
        case measure => simp [intOf]; omega
      | true =>
        have Hb := hide hbl
        have Hd := hide hd
        have H0 := hide (nlAt_one hd)
        have HB0 := hide (BlTo.next (BlTo.refl l i) hd hbl)
        clear hd hbl
        obtain ⟨wo, rfl⟩ : ∃ wo : World, wo = wr := ⟨_, rfl⟩
        generalize hnl : isNl d = nl at H0
        have Hnl := hide hnl
        clear hnl
        go_wp2_with (first
          | (go_at_call 14; (with_reducible refine (isWs_n _ true _ Hb.out (Ht.out _ hgr)).mono ?_); rintro e w' ⟨rfl, rfl⟩)
          | (go_at_call 15; (with_reducible refine (isNl_n _ nl _ Hnl.out (Hn.out _ hgr)).mono ?_); rintro e w' ⟨rfl, rfl⟩))
        clear cell0
        go_loop [5, 7] (fun vi vn => ∃ (e : Nat) (b : Bool), i + 1 ≤ e ∧ e ≤ l.length ∧ vi = .int .i64 (e : Int) ∧ vn = .bool b ∧ Hid (BlTo l i e) ∧ Hid (nlAt l i e = b)) (fun vi _ => l.length - (intOf vi).toNat)
        case atStart => exact ⟨i + 1, nl, by omega, by omega, by go_num, rfl, HB0, H0⟩
        case round =>
          obtain ⟨e, b, hie, hel, rfl, rfl, hbt, hm⟩ := hrel
          by_cases hc : ∃ x, l[e]? = some x ∧ isBl x = true
          · obtain ⟨x, hx, hxb⟩ := hc
            have hlt2 := (List.getElem?_eq_some_iff.1 hx).1
            have cell1 := hb.out.cell ((Hi.out.at_ (show i ≤ e by omega)).trans hx)
            have Hxb := hide hxb
            have Hbt := hide (hbt.out.next hx hxb)
            have Hm := hide (nlAt_next (show i ≤ e by omega) hx)
            clear hbt
            cases hn2 : isNl x with
            | true =>
              have Hx := hide hn2
              rw [hm.out, hn2, Bool.or_true] at Hm
              clear hx hxb hn2 hm
              go_wp2_with (first
                | (go_at_call 14; (with_reducible refine (isWs_n _ true _ Hxb.out (Ht.out _ hgr)).mono ?_); rintro e w' ⟨rfl, rfl⟩)
                | (go_at_call 15; (with_reducible refine (isNl_n _ true _ Hx.out (Hn.out _ hgr)).mono ?_); rintro e w' ⟨rfl, rfl⟩))
              go_round
              case rel => exact ⟨e + 1, true, by omega, by omega, by go_num, rfl, Hbt, Hm⟩
              case measure => simp [intOf]; omega
            | false =>
              have Hx := hide hn2
              rw [hm.out, hn2, Bool.or_false] at Hm
              clear hx hxb hn2 hm
              go_wp2_with (first
                | (go_at_call 14; (with_reducible refine (isWs_n _ true _ Hxb.out (Ht.out _ hgr)).mono ?_); rintro e w' ⟨rfl, rfl⟩)
                | (go_at_call 15; (with_reducible refine (isNl_n _ false _ Hx.out (Hn.out _ hgr)).mono ?_); rintro e w' ⟨rfl, rfl⟩))
              go_round
              case rel => exact ⟨e + 1, b, by omega, by omega, by go_num, rfl, Hbt, Hm⟩
              case measure => simp [intOf]; omega
          · have hstop : ∀ x, l[e]? = some x → isBl x = false := fun x hx => by
              cases hb : isBl x with
              | false => rfl
              | true => exact absurd ⟨x, hx, hb⟩ hc
            have hrun : RunAt l i e := RunAt.mk' (by omega) hel hbt.out hstop
            have Hmk := hide (markAt_nl hm.out)
            have Hr := hide hrun
            have Hs := hide hstop
            obtain ⟨x, hx⟩ : ∃ x, e < l.length → l[e]? = some x := by
              rcases Nat.lt_or_ge e l.length with h | h
              · exact ⟨_, fun _ => List.getElem?_eq_getElem h⟩
              · exact ⟨0, fun h' => absurd h' (by omega)⟩
            have cell1 : e < l.length → wo.cell? ⟨g, e, none⟩ = some (.int .u8 (x.toNat : Int)) := fun h => hb.out.cell ((Hi.out.at_ (show i ≤ e by omega)).trans (hx h))
            have Hxb : Hid (e < l.length → isBl x = false) := fun h => hstop x (hx h)
            have frz := hb.out.frozen i
            have cellS := hb.out.cell ((Hi.out.at_ (Nat.le_refl _)).trans Hd.out)
            clear hx hstop hrun hc hbt hm
            by_cases hend : e < l.length
            · have cell2 := cell1 hend
              clear cell1
              cases b
              · by_cases h2 : i + 1 < e
                · by_cases hj : j = 0
                  · skip
                    have Hst := hide (hb.out.set_ i 32)
                    have hgr2 := grown_set hgr (p := ⟨g, i, none⟩) (.inl rfl) (.int .u8 32)
                    have Hm2 : Hid (markAt l i e = 32) := by rw [Hmk.out]; rfl
                    subst hj
                    have j0 : (((0 : Nat) : Int) == 0) = true := rfl
                    have Hf := hide (((Hi.out.first Hr.out h2).step Hs.out))
                    rw [Hm2.out] at Hf
                    go_wp2_with (go_at_call 14; (with_reducible refine (isWs_n _ false _ (Hxb.out hend) (Ht.out _ hgr)).mono ?_); rintro e w' ⟨rfl, rfl⟩)
                    go_roundw
                    case rel => exact ⟨i + 1, e, e + 1, _, by go_num, rfl, by go_num, by omega, Hf, Hst, hgr2⟩
                    case measure => simp [intOf]; omega
                  · skip
                    have Hst := hide (hb.out.set_ i 32)
                    have hgr2 := grown_set hgr (p := ⟨g, i, none⟩) (.inl rfl) (.int .u8 32)
                    have Hm2 : Hid (markAt l i e = 32) := by rw [Hmk.out]; rfl
                    have j0 : ((j : Int) == 0) = false := by rw [beq_eq_false_iff_ne]; omega
                    have hjk2 : 0 < j ∧ j < k := by have := Hbd.out; omega
                    have Hf := hide (((Hi.out.more (by omega) Hr.out h2).step Hs.out))
                    rw [Hm2.out] at Hf
                    have hcl2 : (cur.set i 32).length = l.length := by have := Hcl.out; simpa using this
                    obtain ⟨r, hr⟩ : ∃ r, r = i + 1 - k := ⟨_, rfl⟩
                    have hr2 : j + r ≤ l.length := by omega
                    obtain ⟨w2, hrun2, hb2, hg2⟩ := run_move8 (Hst.out.drew) j k (i + 1) hjk2.2 (by omega) (by omega) (l.length - j) (i + 1 - k) (l.length - j) (l.length - k) r (by omega) rfl hr
                    have Hrun2 := hide hrun2
                    have Hb2 := hide hb2
                    have hgr3 : w.grownBy w2 (some g) := World.grownBy.trans (b := (wo.setCell ⟨g, i, none⟩ (.int .u8 32)).drew) ⟨hgr2.os, hgr2.tape, hgr2.output, hgr2.size, hgr2.block⟩ hg2
                    have s1 : IntKind.i64.wrap ((i : Int) + 1) = (i : Int) + 1 := IntWalk.i64_in _ (by omega)
                    have s2 : IntKind.i64.wrap ((j : Int) + (r : Int)) = (j : Int) + (r : Int) := IntWalk.i64_in _ (by omega)
                    have S := hide (And.intro s1 s2)
                    have Hr2 := hide hr
                    clear s1 s2 hrun2 hb2 hg2 hcl2 hr
                    go_wp2_with (go_at_call 14; (with_reducible refine (isWs_n _ false _ (Hxb.out hend) (Ht.out _ hgr)).mono ?_); rintro e w' ⟨rfl, rfl⟩)
                    obtain ⟨s1, s2⟩ := S.out
                    have t1 : 0 ≤ (i : Int) + 1 := by omega
                    have t3 : ((i : Int) + 1).toNat = i + 1 := by omega
                    have t4 : ¬ l.length = j := by omega
                    have t5 : ¬ l.length = k := by omega
                    have t6 : j ≤ l.length := by omega
                    have t7 : k ≤ i + 1 := by omega
                    have t8 : (i : Int) + 1 ≤ (l.length : Int) := by omega
                    clear S
                    go_region_law ((with_reducible refine step_copy_runG Hrun2.out _ _ ?_ rfl rfl ?_ ?_ ?_); (rfl); (simp [Act.eval, Act.put]); (simp [Act.eval, Act.put]))
                    all_goals
                      clear s1 s2 t1 t3 t4 t5 t6 t7 t8
                      go_wp2
                      go_roundw
                      case rel => exact ⟨j + (i + 1 - k), e, e + 1, _, by have := Hr2.out; go_num, rfl, by go_num, by omega, Hf, Hb2, hgr3⟩
                      case measure => simp [intOf]; omega
                · skip
                  have Hst := hide (hb.out.set_ i 32)
                  have hgr2 := grown_set hgr (p := ⟨g, i, none⟩) (.inl rfl) (.int .u8 32)
                  have Hm2 : Hid (markAt l i e = 32) := by rw [Hmk.out]; rfl
                  obtain rfl : e = i + 1 := by omega
                  have Hf := hide (((Hi.out.blank Hr.out).step Hs.out))
                  rw [Hm2.out] at Hf
                  go_wp2_with (go_at_call 14; (with_reducible refine (isWs_n _ false _ (Hxb.out hend) (Ht.out _ hgr)).mono ?_); rintro e w' ⟨rfl, rfl⟩)
                  go_roundw
                  case rel => exact ⟨j, k, i + 1 + 1, _, rfl, rfl, by go_num, by omega, Hf, Hst, hgr2⟩
                  case measure => simp [intOf]; omega
              · by_cases h2 : i + 1 < e
                · by_cases hj : j = 0
                  · skip
                    have Hst := hide (hb.out.set_ i 10)
                    have hgr2 := grown_set hgr (p := ⟨g, i, none⟩) (.inl rfl) (.int .u8 10)
                    have Hm2 : Hid (markAt l i e = 10) := by rw [Hmk.out]; rfl
                    subst hj
                    have j0 : (((0 : Nat) : Int) == 0) = true := rfl
                    have Hf := hide (((Hi.out.first Hr.out h2).step Hs.out))
                    rw [Hm2.out] at Hf
                    go_wp2_with (go_at_call 14; (with_reducible refine (isWs_n _ false _ (Hxb.out hend) (Ht.out _ hgr)).mono ?_); rintro e w' ⟨rfl, rfl⟩)
                    go_roundw
                    case rel => exact ⟨i + 1, e, e + 1, _, by go_num, rfl, by go_num, by omega, Hf, Hst, hgr2⟩
                    case measure => simp [intOf]; omega
                  · skip
                    have Hst := hide (hb.out.set_ i 10)
                    have hgr2 := grown_set hgr (p := ⟨g, i, none⟩) (.inl rfl) (.int .u8 10)
                    have Hm2 : Hid (markAt l i e = 10) := by rw [Hmk.out]; rfl
                    have j0 : ((j : Int) == 0) = false := by rw [beq_eq_false_iff_ne]; omega
                    have hjk2 : 0 < j ∧ j < k := by have := Hbd.out; omega
                    have Hf := hide (((Hi.out.more (by omega) Hr.out h2).step Hs.out))
                    rw [Hm2.out] at Hf
                    have hcl2 : (cur.set i 10).length = l.length := by have := Hcl.out; simpa using this
                    obtain ⟨r, hr⟩ : ∃ r, r = i + 1 - k := ⟨_, rfl⟩
                    have hr2 : j + r ≤ l.length := by omega
                    obtain ⟨w2, hrun2, hb2, hg2⟩ := run_move8 (Hst.out.drew) j k (i + 1) hjk2.2 (by omega) (by omega) (l.length - j) (i + 1 - k) (l.length - j) (l.length - k) r (by omega) rfl hr
                    have Hrun2 := hide hrun2
                    have Hb2 := hide hb2
                    have hgr3 : w.grownBy w2 (some g) := World.grownBy.trans (b := (wo.setCell ⟨g, i, none⟩ (.int .u8 10)).drew) ⟨hgr2.os, hgr2.tape, hgr2.output, hgr2.size, hgr2.block⟩ hg2
                    have s1 : IntKind.i64.wrap ((i : Int) + 1) = (i : Int) + 1 := IntWalk.i64_in _ (by omega)
                    have s2 : IntKind.i64.wrap ((j : Int) + (r : Int)) = (j : Int) + (r : Int) := IntWalk.i64_in _ (by omega)
                    have S := hide (And.intro s1 s2)
                    have Hr2 := hide hr
                    clear s1 s2 hrun2 hb2 hg2 hcl2 hr
                    go_wp2_with (go_at_call 14; (with_reducible refine (isWs_n _ false _ (Hxb.out hend) (Ht.out _ hgr)).mono ?_); rintro e w' ⟨rfl, rfl⟩)
                    obtain ⟨s1, s2⟩ := S.out
                    have t1 : 0 ≤ (i : Int) + 1 := by omega
                    have t3 : ((i : Int) + 1).toNat = i + 1 := by omega
                    have t4 : ¬ l.length = j := by omega
                    have t5 : ¬ l.length = k := by omega
                    have t6 : j ≤ l.length := by omega
                    have t7 : k ≤ i + 1 := by omega
                    have t8 : (i : Int) + 1 ≤ (l.length : Int) := by omega
                    clear S
                    go_region_law ((with_reducible refine step_copy_runG Hrun2.out _ _ ?_ rfl rfl ?_ ?_ ?_); (rfl); (simp [Act.eval, Act.put]); (simp [Act.eval, Act.put]))
                    all_goals
                      clear s1 s2 t1 t3 t4 t5 t6 t7 t8
                      go_wp2
                      go_roundw
                      case rel => exact ⟨j + (i + 1 - k), e, e + 1, _, by have := Hr2.out; go_num, rfl, by go_num, by omega, Hf, Hb2, hgr3⟩
                      case measure => simp [intOf]; omega
                · skip
                  have Hst := hide (hb.out.set_ i 10)
                  have hgr2 := grown_set hgr (p := ⟨g, i, none⟩) (.inl rfl) (.int .u8 10)
                  have Hm2 : Hid (markAt l i e = 10) := by rw [Hmk.out]; rfl
                  obtain rfl : e = i + 1 := by omega
                  have Hf := hide (((Hi.out.blank Hr.out).step Hs.out))
                  rw [Hm2.out] at Hf
                  go_wp2_with (go_at_call 14; (with_reducible refine (isWs_n _ false _ (Hxb.out hend) (Ht.out _ hgr)).mono ?_); rintro e w' ⟨rfl, rfl⟩)
                  go_roundw
                  case rel => exact ⟨j, k, i + 1 + 1, _, rfl, rfl, by go_num, by omega, Hf, Hst, hgr2⟩
                  case measure => simp [intOf]; omega
            · skip
              clear cell1
              cases b
              · by_cases h2 : i + 1 < e
                · by_cases hj : j = 0
                  · skip
                    have Hst := hide (hb.out.set_ i 32)
                    have hgr2 := grown_set hgr (p := ⟨g, i, none⟩) (.inl rfl) (.int .u8 32)
                    have Hm2 : Hid (markAt l i e = 32) := by rw [Hmk.out]; rfl
                    subst hj
                    have j0 : (((0 : Nat) : Int) == 0) = true := rfl
                    have Hf := hide (((Hi.out.first Hr.out h2).step Hs.out))
                    rw [Hm2.out] at Hf
                    go_wp2
                    go_roundw
                    case rel => exact ⟨i + 1, e, e + 1, _, by go_num, rfl, by go_num, by omega, Hf, Hst, hgr2⟩
                    case measure => simp [intOf]; omega
                  · skip
                    have Hst := hide (hb.out.set_ i 32)
                    have hgr2 := grown_set hgr (p := ⟨g, i, none⟩) (.inl rfl) (.int .u8 32)
                    have Hm2 : Hid (markAt l i e = 32) := by rw [Hmk.out]; rfl
                    have j0 : ((j : Int) == 0) = false := by rw [beq_eq_false_iff_ne]; omega
                    have hjk2 : 0 < j ∧ j < k := by have := Hbd.out; omega
                    have Hf := hide (((Hi.out.more (by omega) Hr.out h2).step Hs.out))
                    rw [Hm2.out] at Hf
                    have hcl2 : (cur.set i 32).length = l.length := by have := Hcl.out; simpa using this
                    obtain ⟨r, hr⟩ : ∃ r, r = i + 1 - k := ⟨_, rfl⟩
                    have hr2 : j + r ≤ l.length := by omega
                    obtain ⟨w2, hrun2, hb2, hg2⟩ := run_move8 (Hst.out.drew) j k (i + 1) hjk2.2 (by omega) (by omega) (l.length - j) (i + 1 - k) (l.length - j) (l.length - k) r (by omega) rfl hr
                    have Hrun2 := hide hrun2
                    have Hb2 := hide hb2
                    have hgr3 : w.grownBy w2 (some g) := World.grownBy.trans (b := (wo.setCell ⟨g, i, none⟩ (.int .u8 32)).drew) ⟨hgr2.os, hgr2.tape, hgr2.output, hgr2.size, hgr2.block⟩ hg2
                    have s1 : IntKind.i64.wrap ((i : Int) + 1) = (i : Int) + 1 := IntWalk.i64_in _ (by omega)
                    have s2 : IntKind.i64.wrap ((j : Int) + (r : Int)) = (j : Int) + (r : Int) := IntWalk.i64_in _ (by omega)
                    have S := hide (And.intro s1 s2)
                    have Hr2 := hide hr
                    clear s1 s2 hrun2 hb2 hg2 hcl2 hr
                    go_wp2
                    obtain ⟨s1, s2⟩ := S.out
                    have t1 : 0 ≤ (i : Int) + 1 := by omega
                    have t3 : ((i : Int) + 1).toNat = i + 1 := by omega
                    have t4 : ¬ l.length = j := by omega
                    have t5 : ¬ l.length = k := by omega
                    have t6 : j ≤ l.length := by omega
                    have t7 : k ≤ i + 1 := by omega
                    have t8 : (i : Int) + 1 ≤ (l.length : Int) := by omega
                    clear S
                    go_region_law ((with_reducible refine step_copy_runG Hrun2.out _ _ ?_ rfl rfl ?_ ?_ ?_); (rfl); (simp [Act.eval, Act.put]); (simp [Act.eval, Act.put]))
                    all_goals
                      clear s1 s2 t1 t3 t4 t5 t6 t7 t8
                      go_wp2
                      go_roundw
                      case rel => exact ⟨j + (i + 1 - k), e, e + 1, _, by have := Hr2.out; go_num, rfl, by go_num, by omega, Hf, Hb2, hgr3⟩
                      case measure => simp [intOf]; omega
                · skip
                  have Hst := hide (hb.out.set_ i 32)
                  have hgr2 := grown_set hgr (p := ⟨g, i, none⟩) (.inl rfl) (.int .u8 32)
                  have Hm2 : Hid (markAt l i e = 32) := by rw [Hmk.out]; rfl
                  obtain rfl : e = i + 1 := by omega
                  have Hf := hide (((Hi.out.blank Hr.out).step Hs.out))
                  rw [Hm2.out] at Hf
                  go_wp2
                  go_roundw
                  case rel => exact ⟨j, k, i + 1 + 1, _, rfl, rfl, by go_num, by omega, Hf, Hst, hgr2⟩
                  case measure => simp [intOf]; omega
              · by_cases h2 : i + 1 < e
                · by_cases hj : j = 0
                  · skip
                    have Hst := hide (hb.out.set_ i 10)
                    have hgr2 := grown_set hgr (p := ⟨g, i, none⟩) (.inl rfl) (.int .u8 10)
                    have Hm2 : Hid (markAt l i e = 10) := by rw [Hmk.out]; rfl
                    subst hj
                    have j0 : (((0 : Nat) : Int) == 0) = true := rfl
                    have Hf := hide (((Hi.out.first Hr.out h2).step Hs.out))
                    rw [Hm2.out] at Hf
                    go_wp2
                    go_roundw
                    case rel => exact ⟨i + 1, e, e + 1, _, by go_num, rfl, by go_num, by omega, Hf, Hst, hgr2⟩
                    case measure => simp [intOf]; omega
                  · skip
                    have Hst := hide (hb.out.set_ i 10)
                    have hgr2 := grown_set hgr (p := ⟨g, i, none⟩) (.inl rfl) (.int .u8 10)
                    have Hm2 : Hid (markAt l i e = 10) := by rw [Hmk.out]; rfl
                    have j0 : ((j : Int) == 0) = false := by rw [beq_eq_false_iff_ne]; omega
                    have hjk2 : 0 < j ∧ j < k := by have := Hbd.out; omega
                    have Hf := hide (((Hi.out.more (by omega) Hr.out h2).step Hs.out))
                    rw [Hm2.out] at Hf
                    have hcl2 : (cur.set i 10).length = l.length := by have := Hcl.out; simpa using this
                    obtain ⟨r, hr⟩ : ∃ r, r = i + 1 - k := ⟨_, rfl⟩
                    have hr2 : j + r ≤ l.length := by omega
                    obtain ⟨w2, hrun2, hb2, hg2⟩ := run_move8 (Hst.out.drew) j k (i + 1) hjk2.2 (by omega) (by omega) (l.length - j) (i + 1 - k) (l.length - j) (l.length - k) r (by omega) rfl hr
                    have Hrun2 := hide hrun2
                    have Hb2 := hide hb2
                    have hgr3 : w.grownBy w2 (some g) := World.grownBy.trans (b := (wo.setCell ⟨g, i, none⟩ (.int .u8 10)).drew) ⟨hgr2.os, hgr2.tape, hgr2.output, hgr2.size, hgr2.block⟩ hg2
                    have s1 : IntKind.i64.wrap ((i : Int) + 1) = (i : Int) + 1 := IntWalk.i64_in _ (by omega)
                    have s2 : IntKind.i64.wrap ((j : Int) + (r : Int)) = (j : Int) + (r : Int) := IntWalk.i64_in _ (by omega)
                    have S := hide (And.intro s1 s2)
                    have Hr2 := hide hr
                    clear s1 s2 hrun2 hb2 hg2 hcl2 hr
                    go_wp2
                    obtain ⟨s1, s2⟩ := S.out
                    have t1 : 0 ≤ (i : Int) + 1 := by omega
                    have t3 : ((i : Int) + 1).toNat = i + 1 := by omega
                    have t4 : ¬ l.length = j := by omega
                    have t5 : ¬ l.length = k := by omega
                    have t6 : j ≤ l.length := by omega
                    have t7 : k ≤ i + 1 := by omega
                    have t8 : (i : Int) + 1 ≤ (l.length : Int) := by omega
                    clear S
                    go_region_law ((with_reducible refine step_copy_runG Hrun2.out _ _ ?_ rfl rfl ?_ ?_ ?_); (rfl); (simp [Act.eval, Act.put]); (simp [Act.eval, Act.put]))
                    all_goals
                      clear s1 s2 t1 t3 t4 t5 t6 t7 t8
                      go_wp2
                      go_roundw
                      case rel => exact ⟨j + (i + 1 - k), e, e + 1, _, by have := Hr2.out; go_num, rfl, by go_num, by omega, Hf, Hb2, hgr3⟩
                      case measure => simp [intOf]; omega
                · skip
                  have Hst := hide (hb.out.set_ i 10)
                  have hgr2 := grown_set hgr (p := ⟨g, i, none⟩) (.inl rfl) (.int .u8 10)
                  have Hm2 : Hid (markAt l i e = 10) := by rw [Hmk.out]; rfl
                  obtain rfl : e = i + 1 := by omega
                  have Hf := hide (((Hi.out.blank Hr.out).step Hs.out))
                  rw [Hm2.out] at Hf
                  go_wp2
                  go_roundw
                  case rel => exact ⟨j, k, i + 1 + 1, _, rfl, rfl, by go_num, by omega, Hf, Hst, hgr2⟩
                  case measure => simp [intOf]; omega
    · have hin1 := hin.out
      rw [Nat.min_eq_right (by omega)] at hin1
      have hbd := hin1.2.2.2.2
      have hcl := hin1.1
      have Hi := hide hin1
      have Hcl := hide hcl
      clear hin1 hin hcl
      by_cases hj0 : j = 0
      · have j0 : ((j : Int) == 0) = true := by rw [beq_iff_eq]; omega
        have he := Hi.out.end0 hj0
        subst he
        have Hl := hide Hcl.out
        clear hbd hj0
        go_wp2
        go_ret
        refine ⟨some ⟨g, 0, none⟩, (sq l).length, ?_, hb.out.all, hgr⟩
        rw [Hl.out]; rfl
      have j0 : ((j : Int) == 0) = false := by rw [beq_eq_false_iff_ne]; omega
      have hjk2 : 0 < j ∧ j < k ∧ k ≤ l.length := by omega
      clear hbd
      by_cases hj1 : j = 1
      · have j1 : ((j : Int) == 1) = true := by rw [beq_iff_eq]; omega
        obtain ⟨x, hx⟩ : ∃ x, cur[0]? = some x := ⟨_, List.getElem?_eq_getElem (by have := Hcl.out; omega)⟩
        have cell0 := hb.out.cell hx
        have hst := hb.out.set_ (k - 1) x
        have Hf := hide (Hi.out.end1 hj1 hx)
        have hgr2 := grown_set hgr (p := ⟨g, k - 1, none⟩) (.inl rfl) (.int .u8 (x.toNat : Int))
        have Hbs := hide (hst.bs (k - 1) (l.length - (k - 1)))
        have hx256 := x.toNat_lt
        have frz := hb.out.frozen (k - 1)
        obtain ⟨y, hy⟩ : ∃ y, cur[k - 1]? = some y := ⟨_, List.getElem?_eq_getElem (by have := Hcl.out; omega)⟩
        have cellK := hb.out.cell hy
        clear hy
        have Hl := hide (show ((cur.set (k - 1) x).drop (k - 1)).length = l.length - (k - 1) by have := Hcl.out; simp; omega)
        obtain ⟨A', runL, srcL, _⟩ := run_lo8 (P := Tryd.prog) 22 Tryd.underlying22 (by kernel_rfl) hst.all l.length l.length (k - 1) ((k : Int) - 1) (by omega) (by have := Hcl.out; simpa using this) (by omega) (Nat.le_refl _)
        have HrunL := hide runL
        clear runL hx hst
        go_wp2_with ((with_reducible refine wpList_slice_runO (HrunL.out .i64 _) _ _ _ ?_ rfl ?_ ?_ ?_ ?_); (rfl); (rfl); (rfl); (rfl))
        go_ret
        refine ⟨A', l.length - (k - 1), ?_, by rw [← Hf.out]; exact srcL, hgr2⟩
        rw [← Hf.out, Hl.out]; rfl
      have j1 : ((j : Int) == 1) = false := by rw [beq_eq_false_iff_ne]; omega
      by_cases hk : k < l.length
      · have Hf := hide Hi.out.endM
        have Hl := hide (moved_take_len (cur := cur) (j := j) (k := k) (q := l.length) hjk2.2.2 (by have := Hcl.out; omega) (by have := Hcl.out; omega))
        obtain ⟨r, hr⟩ : ∃ r, r = l.length - k := ⟨_, rfl⟩
        have hr2 : j + r ≤ l.length := by omega
        obtain ⟨w2, hrun2, hb2, hg2⟩ := run_move8 (hb.out.drew) j k l.length hjk2.2.1 hjk2.2.2 (by have := Hcl.out; omega) (l.length - j) (l.length - k) (l.length - j) (l.length - k) r (by have := Hcl.out; omega) rfl hr
        have Hrun2 := hide hrun2
        have Hbs := hide (hb2.bs0 (j + (l.length - k)))
        have hgr3 : w.grownBy w2 (some g) := World.grownBy.trans (b := wr.drew) ⟨hgr.os, hgr.tape, hgr.output, hgr.size, hgr.block⟩ hg2
        have s2 : IntKind.i64.wrap ((j : Int) + (r : Int)) = (j : Int) + (r : Int) := IntWalk.i64_in _ (by omega)
        have S := hide s2
        have HrunH := hide (run_hi8 (P := Tryd.prog) (A := some ⟨g, 0, none⟩) 22 Tryd.underlying22 (by kernel_rfl) l.length l.length (j + (l.length - k)) ((j : Int) + (r : Int)) (by omega) (by omega) .i64)
        clear s2 hrun2 hb2 hg2 hr
        go_wp2
        have s2 := S.out
        have t4 : ¬ l.length = j := by omega
        have t5 : ¬ l.length = k := by omega
        have t6 : j ≤ l.length := by omega
        have t7 : k ≤ l.length := by omega
        clear S
        go_region_law ((with_reducible refine step_copy_runG Hrun2.out _ _ ?_ rfl rfl ?_ ?_ ?_); (rfl); (simp [Act.eval, Act.put]); (simp [Act.eval, Act.put]))
        all_goals
          clear s2 t4 t5 t6 t7
          go_wp2_with ((with_reducible refine wpList_slice_runO (HrunH.out _) _ _ _ ?_ rfl ?_ ?_ ?_ ?_); (rfl); (rfl); (rfl); (rfl))
          go_ret
          refine ⟨some ⟨g, 0, none⟩, l.length, ?_, by rw [← Hf.out]; exact Hbs.out, hgr3⟩
          rw [← Hf.out, Hl.out]; rfl
      · obtain rfl : k = l.length := by omega
        have Hf := hide (Hi.out.endK rfl)
        have Hl := hide (show (cur.take j).length = j by have := Hcl.out; rw [List.length_take]; omega)
        have HrunH := hide (run_hi8 (P := Tryd.prog) (A := some ⟨g, 0, none⟩) 22 Tryd.underlying22 (by kernel_rfl) l.length l.length j (j : Int) rfl (by omega) .i64)
        have Hbs := hide (hb.out.bs0 j)
        go_wp2_with ((with_reducible refine wpList_slice_runO (HrunH.out _) _ _ _ ?_ rfl ?_ ?_ ?_ ?_); (rfl); (rfl); (rfl); (rfl))
        go_ret
        refine ⟨some ⟨g, 0, none⟩, l.length, ?_, by rw [← Hf.out]; exact Hbs.out, hgr⟩
        rw [← Hf.out, Hl.out]; rfl
end Go.Proofs.YtolcffmfhllfpaaDoor
