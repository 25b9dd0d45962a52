/- The package's squeezing of runs of blanks together with the replacement of entities, in place. Conditions: as for both. -/
import Derived.Test.YtnepjlfkbmindaaDoorSqE
import Derived.Test.YtnepjlfkbmindaaDoorSqS
import Derived.Test.YtnepjlfkbmindaaDoorReI
namespace Go.Proofs.YtnepjlfkbmindaaDoor
open Go.RowKit
set_option linter.unusedVariables false
set_option linter.unusedSimpArgs false

theorem isWs38 (w : World) (ht : WsTab w) : Calls Tryd.prog 21 #[.int .u8 38] w fun e w' => e = .returned (.bool false) ∧ w = w' := isWs_n 38 false w bl38 ht
theorem isNl_n (c : UInt8) (b : Bool) (w : World) (hb : isNl c = b) (ht : NlTab w) :
    Calls Tryd.prog 22 #[.int .u8 (c.toNat : Int)] w fun e w' => e = .returned (.bool b) ∧ w = w' := by
  subst hb
  exact isNl_any c w ht
/-- A section moved down within the row. -/
theorem OwnB.move {w : World} {base n c g : Nat} {cur : List UInt8} (own : OwnB w base (some ⟨g, 0, none⟩) n c cur) (j k q : Nat) (hjk : j < k) (hkq : k ≤ q) (hq : q ≤ n) (dl dc sl sc r : Nat) (hdl : q - k ≤ dl) (hsl : sl = q - k) (hr : r = q - k) :
    ∃ w', (Builtin.copy_ #[26, 26] 3 #[.slice (some ⟨g, j, none⟩) dl dc, .slice (some ⟨g, k, none⟩) sl sc]).run Tryd.prog w = .ok (.int .i64 (r : Int)) w' ∧ OwnB w' base (some ⟨g, 0, none⟩) n c (moved cur j k q) ∧ w.grownBy w' (some g) := by
  have hl := own.len
  subst hsl
  exact OwnB.copy_in own (own.part k (q - k)) j dl dc sc (q - k) r (by simp; omega) hdl (by omega) hr
theorem nonblank_of {x : UInt8} (h : isAn x) : isBl x = false := an_bl h
theorem ne38 {x : UInt8} (h : x ≠ 38) : ((x.toNat : Int) == 38) = false := by
  rw [beq_eq_false_iff_ne]
  intro e
  exact h (UInt8.toNat_inj.1 (Int.ofNat.inj e))
set_option maxRecDepth 100000 in
set_option maxHeartbeats 32000000 in
theorem sqr_any (g n0 c B base : Nat) (l due : List UInt8) (its : List It) (nt : NT) (w : World) (own : OwnB w base (some ⟨g, 0, none⟩) n0 c l) (hd : Todo nt l 0 its due) (hn : NtOk nt) (cx : Ctx w B g nt) (hn2 : n0 ≤ 2147483640) (ht : WsTab w) (hnl : NlTab w)
    (hgw : g ≠ 0) (hgn : g ≠ 1) :
    Calls Tryd.prog 16 #[.slice (some ⟨g, 0, none⟩) n0 c, .map (some B), .map none] w (InRet w base g c (sq due)) := by
  have Ht : Hid (∀ w', w.grownBy w' (some g) → WsTab w') := fun w' h => ht.grown h (fun e => hgw (by injection e))
  have Hnl : Hid (∀ w', w.grownBy w' (some g) → NlTab w') := fun w' h => hnl.grown h (fun e => hgn (by injection e))
  have HN := hide hn
  have Hc := hide cx
  have Hd := hide hd
  have Hown := hide own
  have hlen0 := own.len
  have Hs0 := hide (SqIn.start l)
  clear ht hnl hgw hgn hn cx hd own
  go_enter Tryd.func16, Tryd.ntmps16
  go_wp2
  go_loopg [0, 7, 8, 9] its.length (fun gk sv vj vk vi wr => ∃ (n j k i : Nat) (L cur : List UInt8) (rest : List It), rest.length ≤ gk ∧ sv = .slice (some ⟨g, 0, none⟩) n c ∧ vj = .int .i64 (j : Int) ∧ vk = .int .i64 (k : Int) ∧ vi = .int .i64 (i : Int) ∧ i ≤ n + 1 ∧ n ≤ 2147483640 ∧ Hid (L.length = n) ∧ Hid (SqIn L cur j k (min i n)) ∧ Hid (Todo nt L (min i n) rest due) ∧ Hid (OwnB wr base (some ⟨g, 0, none⟩) n c cur) ∧ Hid (w.grownBy wr (some g)))
  case atStart => exact ⟨n0, 0, 0, 0, l, l, its, Nat.le_refl _, rfl, rfl, rfl, rfl, Nat.zero_le _, hn2, hlen0, by rw [Nat.zero_min]; exact Hs0, by rw [Nat.zero_min]; exact Hd, Hown, World.grownBy.refl _ _⟩
  case round =>
    obtain ⟨n, j, k, i, L, cur, rest, hgk, rfl, rfl, rfl, rfl, hi, hnb, hL, hin, htd, ho, hgr⟩ := hrel
    clear Hown Hd Hs0 hlen0 hn2
    have hnc := ho.out.le.1
    have hlen := ho.out.len
    by_cases hlt : i < n
    · have hmin : min i n = i := Nat.min_eq_left (by omega)
      rw [hmin] at hin htd
      have hbd := hin.out.2.2.2.2
      cases rest with
      | nil => exact absurd htd.out.done.1 (by have := hL.out; omega)
      | cons it rest =>
        simp only [List.length_cons] at hgk
        cases it with
        | ent f t =>
          focus
            obtain ⟨hl, he, hnext, hle⟩ := htd.out.ent
            obtain ⟨f4, f0, t1, tf, tan⟩ := he.facts HN.out
            have hlc := (hin.out).lies hl
            have hsq := (hin.out).rep hl f0 t1 tan
            have hcall := rep_any g n c i B base _ f t nt _ ho.out hlc he HN.out (Hc.out.grown hgr.out) (by omega)
            have cellE := (ho.out).cellI (hlc.at_ f0)
            rw [Nat.add_zero] at cellE
            have Hcall := hide hcall
            have Hsq := hide hsq
            have Hnext := hide hnext
            have e38 : (((38 : UInt8).toNat : Int) == 38) = true := rfl
            have hLn := hL.out
            have hE3 : (((i : Nat) : Int) : Int) + 3 < (n : Int) := by omega
            clear hcall hsq hnext hlc hl he f0 tan
            go_wp2_with (first
              | (go_at_call 21; (with_reducible refine (isWs38 _ (Ht.out _ hgr.out)).mono ?_); rintro e' w' ⟨rfl, rfl⟩)
              | (go_at_call 23; (with_reducible refine Hcall.out.mono ?_); rintro e' w9 ⟨n', hn', rfl, own9, hg9⟩))
            have Own9 := hide own9
            have Hg9 := hide (World.grownBy.trans hgr.out hg9)
            have hl9 := own9.len
            have hle9 := Hnext.out.le
            have hL9 := Hsq.out.1
            have hq9 : (((i + t.length - 1 : Nat) : Int)) + 1 = ((i + t.length : Nat) : Int) := by omega
            have hm9 : min (i + t.length) n' = i + t.length := Nat.min_eq_left (by omega)
            clear own9 hg9
            go_wp2
            go_roundg rest.length
            case rel => exact ⟨n', _, _, i + t.length, _, _, _, Nat.le_refl _, rfl, rfl, rfl, by first | rfl | go_num | (congr 1; omega), by omega, by omega, by rw [← hL9]; exact hl9, by rw [hm9]; exact Hsq, by rw [hm9]; exact Hnext, Own9, Hg9⟩
            case measure => omega
        | byte x =>
          obtain ⟨h0, hx38, hnext⟩ := htd.out.byte
          have cell0 := ho.out.cellI ((hin.out.at_ (Nat.le_refl _)).trans h0)
          have e38 := ne38 hx38
          have Hnext := hide hnext
          clear hnext hx38
          cases hbl : isBl x with
          | false =>
            focus
              have Hb := hide hbl
              have Hi2 := hide (hin.out.one h0 hbl)
              have hm1 : min (i + 1) n = i + 1 := Nat.min_eq_left (by omega)
              clear hbl h0
              by_cases h3 : i + 3 < n
              · have hE3 : ((i : Int)) + 3 < (n : Int) := by omega
                go_wp2_with (first
                  | (go_at_call 21; (with_reducible refine (isWs_n _ false _ Hb.out (Ht.out _ hgr.out)).mono ?_); rintro e' w' ⟨rfl, rfl⟩))
                go_roundg rest.length
                case rel => exact ⟨n, j, k, i + 1, L, cur, rest, Nat.le_refl _, rfl, rfl, rfl, by go_num, by omega, hnb, hL, by rw [hm1]; exact Hi2, by rw [hm1]; exact Hnext, ho, hgr⟩
                case measure => omega
              · have hE3 : ¬ ((i : Int)) + 3 < (n : Int) := by omega
                go_wp2_with (first
                  | (go_at_call 21; (with_reducible refine (isWs_n _ false _ Hb.out (Ht.out _ hgr.out)).mono ?_); rintro e' w' ⟨rfl, rfl⟩))
                go_roundg rest.length
                case rel => exact ⟨n, j, k, i + 1, L, cur, rest, Nat.le_refl _, rfl, rfl, rfl, by go_num, by omega, hnb, hL, by rw [hm1]; exact Hi2, by rw [hm1]; exact Hnext, ho, hgr⟩
                case measure => omega
          | true =>
            have Hb := hide hbl
            have Hd := hide h0
            have H0 := hide (nlAt_one h0)
            have HB0 := hide (BlTo.next (BlTo.refl L i) h0 hbl)
            have Hi := hin
            have Hbd := hide hbd
            clear h0 hbl hbd hin
            obtain ⟨wo, rfl⟩ : ∃ wo : World, wo = wr := ⟨_, rfl⟩
            generalize hnlx : isNl x = nl at H0
            have Hnlx := hide hnlx
            clear hnlx
            go_wp2_with (first
              | (go_at_call 21; (with_reducible refine (isWs_n _ true _ Hb.out (Ht.out _ hgr.out)).mono ?_); rintro e' w' ⟨rfl, rfl⟩)
              | (go_at_call 22; (with_reducible refine (isNl_n _ nl _ Hnlx.out (Hnl.out _ hgr.out)).mono ?_); rintro e' w' ⟨rfl, rfl⟩))
            clear cell0 e38
            go_loop [9, 11] (fun vi vn => ∃ (e : Nat) (b : Bool) (re : List It), i + 1 ≤ e ∧ e ≤ n ∧ vi = .int .i64 (e : Int) ∧ vn = .bool b ∧ Hid (BlTo L i e) ∧ Hid (nlAt L i e = b) ∧ Hid (Todo nt L e re due) ∧ re.length ≤ rest.length) (fun vi _ => n - (intOf vi).toNat)
            case atStart => exact ⟨i + 1, nl, rest, by omega, by omega, by go_num, rfl, HB0, H0, Hnext, Nat.le_refl _⟩
            case round =>
              obtain ⟨e, b, re, hie, hel, rfl, rfl, hbt, hm, hte, hre⟩ := hrel
              by_cases hc : ∃ y, L[e]? = some y ∧ isBl y = true
              · focus
                  obtain ⟨y, hy, hyb⟩ := hc
                  have hlt2 : e < n := by have := (List.getElem?_eq_some_iff.1 hy).1; have := hL.out; omega
                  cases re with
                  | nil => exact absurd hte.out.done.1 (by have := hL.out; omega)
                  | cons it re =>
                    cases it with
                    | ent f t =>
                      exfalso
                      obtain ⟨hl, he, _, _⟩ := hte.out.ent
                      have := hl.at_ (he.facts HN.out).2.1
                      rw [Nat.add_zero, hy] at this
                      cases this
                      rw [bl38] at hyb
                      cases hyb
                    | byte y' =>
                      obtain ⟨hy', _, hte2⟩ := hte.out.byte
                      have Hte2 := hide hte2
                      have cell1 := ho.out.cellI ((Hi.out.at_ (show i ≤ e by omega)).trans hy)
                      have Hyb := hide hyb
                      have Hbt := hide (hbt.out.next hy hyb)
                      have Hm := hide (nlAt_next (show i ≤ e by omega) hy)
                      have hre2 : re.length ≤ rest.length := by simp at hre; omega
                      clear hbt hte hte2 hy'
                      cases hn2 : isNl y with
                      | true =>
                        have Hx := hide hn2
                        rw [hm.out, hn2, Bool.or_true] at Hm
                        clear hy hyb hn2 hm
                        go_wp2_with (first
                          | (go_at_call 21; (with_reducible refine (isWs_n _ true _ Hyb.out (Ht.out _ hgr.out)).mono ?_); rintro e' w' ⟨rfl, rfl⟩)
                          | (go_at_call 22; (with_reducible refine (isNl_n _ true _ Hx.out (Hnl.out _ hgr.out)).mono ?_); rintro e' w' ⟨rfl, rfl⟩))
                        go_round
                        case rel => exact ⟨e + 1, true, re, by omega, by omega, by go_num, rfl, Hbt, Hm, Hte2, hre2⟩
                        case measure => simp [intOf]; omega
                      | false =>
                        have Hx := hide hn2
                        rw [hm.out, hn2, Bool.or_false] at Hm
                        clear hy hyb hn2 hm
                        go_wp2_with (first
                          | (go_at_call 21; (with_reducible refine (isWs_n _ true _ Hyb.out (Ht.out _ hgr.out)).mono ?_); rintro e' w' ⟨rfl, rfl⟩)
                          | (go_at_call 22; (with_reducible refine (isNl_n _ false _ Hx.out (Hnl.out _ hgr.out)).mono ?_); rintro e' w' ⟨rfl, rfl⟩))
                        go_round
                        case rel => exact ⟨e + 1, b, re, by omega, by omega, by go_num, rfl, Hbt, Hm, Hte2, hre2⟩
                        case measure => simp [intOf]; omega
              · have hstop : ∀ y, L[e]? = some y → isBl y = false := fun y hy => by
                  cases hb : isBl y with
                  | false => rfl
                  | true => exact absurd ⟨y, hy, hb⟩ hc
                have hrun : RunAt L i e := RunAt.mk' (by omega) (by have := hL.out; omega) hbt.out hstop
                have Hmk := hide (markAt_nl hm.out)
                have Hr := hide hrun
                have Hs := hide hstop
                have frz := ho.out.frz i
                have cellS := ho.out.cellI ((Hi.out.at_ (Nat.le_refl _)).trans Hd.out)
                have hjk : j ≤ k ∧ k ≤ i := by have := Hbd.out; omega
                have cellN : ∀ y, L[e]? = some y → wo.cell? ⟨g, e, none⟩ = some (.int .u8 (y.toNat : Int)) := fun y hy => ho.out.cellI ((Hi.out.at_ (show i ≤ e by omega)).trans hy)
                have HcellN := hide cellN
                clear hc hbt hm hstop hrun cellN
                by_cases h3 : e + 3 < n
                · cases re with
                  | nil => exact absurd hte.out.done.1 (by have := hL.out; omega)
                  | cons it re =>
                    cases it with
                    | byte y =>
                      cases b
                      · by_cases h2 : i + 1 < e
                        · by_cases hj : j = 0
                          · focus
                              have Hst : Hid (OwnB (wo.setCell ⟨g, i, none⟩ (.int .u8 32)) base (some ⟨g, 0, none⟩) n c (cur.set i 32)) := hide (ho.out.set_ i 32)
                              have hgr2 : w.grownBy (wo.setCell ⟨g, i, none⟩ (.int .u8 32)) (some g) := grown_set hgr.out (p := ⟨g, i, none⟩) (.inl rfl) (.int .u8 32)
                              have Hm2 : markAt L i e = 32 := by rw [Hmk.out]; rfl
                              have hLn := hL.out
                              subst hj
                              have j0 : (((0 : Nat) : Int) == 0) = true := rfl
                              have hf : SqIn L (cur.set i 32) (i + 1) e e := by have := Hi.out.first Hr.out h2; rw [Hm2] at this; exact this
                              have Hf := hide hf
                              clear hf Hm2
                              obtain ⟨hy, hy38, h9⟩ := hte.out.byte
                              have e38 := ne38 hy38
                              have cell2 := HcellN.out y hy
                              have Hyw := hide (Hs.out y hy)
                              have hen : ((e : Nat) : Int) < (n : Int) := by omega
                              have cellE := (Hst.out).cellI ((Hf.out.at_ (Nat.le_refl _)).trans hy)
                              have hE3 : ((e : Nat) : Int) + 3 < (n : Int) := by omega
                              have Hmn : Hid (Todo nt L (min (e + 1) n) re due) := hide (by rw [show min (e + 1) n = e + 1 by omega]; exact h9)
                              have hre2 : re.length ≤ rest.length := by simp at hre; omega
                              have Hf2 : Hid (SqIn L _ _ _ (min (e + 1) n)) := hide (by have := Hf.out.step Hs.out; rw [hLn] at this; exact this)
                              clear hy hy38 h9 hLn
                              go_wp2_with (go_at_call 21; (with_reducible refine (isWs_n _ false _ Hyw.out (Ht.out _ hgr.out)).mono ?_); rintro e' w' ⟨rfl, rfl⟩)
                              go_roundg rest.length
                              case rel => exact ⟨n, _, _, e + 1, L, _, _, by assumption, rfl, by go_num, rfl, by go_num, by omega, hnb, hL, Hf2, Hmn, Hst, hide hgr2⟩
                              case measure => omega
                          · focus
                              have Hst : Hid (OwnB (wo.setCell ⟨g, i, none⟩ (.int .u8 32)) base (some ⟨g, 0, none⟩) n c (cur.set i 32)) := hide (ho.out.set_ i 32)
                              have hgr2 : w.grownBy (wo.setCell ⟨g, i, none⟩ (.int .u8 32)) (some g) := grown_set hgr.out (p := ⟨g, i, none⟩) (.inl rfl) (.int .u8 32)
                              have Hm2 : markAt L i e = 32 := by rw [Hmk.out]; rfl
                              have hLn := hL.out
                              have j0 : ((j : Int) == 0) = false := by rw [beq_eq_false_iff_ne]; omega
                              have hjk2 : 0 < j ∧ j < k := by have := Hbd.out; omega
                              have hf : SqIn L (moved (cur.set i 32) j k (i + 1)) (j + (i + 1 - k)) e e := by have := Hi.out.more (by omega) Hr.out h2; rw [Hm2] at this; exact this
                              obtain ⟨r, hr⟩ : ∃ r, r = i + 1 - k := ⟨_, rfl⟩
                              have hr2 : j + r ≤ n := by omega
                              obtain ⟨w2, hrun2, hb2, hg2⟩ := OwnB.move (Hst.out.drew) j k (i + 1) hjk2.2 (by omega) (by omega) (n - j) (c - j) (i + 1 - k) (c - k) r (by omega) rfl hr
                              have Hrun2 := hide hrun2
                              have Hb2 := hide hb2
                              have hgr3 : w.grownBy w2 (some g) := World.grownBy.trans (b := (wo.setCell ⟨g, i, none⟩ (.int .u8 32)).drew) ⟨hgr2.os, hgr2.tape, hgr2.output, hgr2.size, hgr2.block⟩ hg2
                              have s1 : IntKind.i64.wrap ((i : Int) + 1) = (i : Int) + 1 := IntWalk.i64_in _ (by omega)
                              have s2 : IntKind.i64.wrap ((j : Int) + (r : Int)) = (j : Int) + (r : Int) := IntWalk.i64_in _ (by omega)
                              have S := hide (And.intro s1 s2)
                              have Hr2 := hide hr
                              clear s1 s2 hrun2 hb2 hg2 hr
                              have Hf := hide hf
                              clear hf Hm2
                              obtain ⟨hy, hy38, h9⟩ := hte.out.byte
                              have e38 := ne38 hy38
                              have cell2 := HcellN.out y hy
                              have Hyw := hide (Hs.out y hy)
                              have hen : ((e : Nat) : Int) < (n : Int) := by omega
                              have cellE := (Hb2.out).cellI ((Hf.out.at_ (Nat.le_refl _)).trans hy)
                              have hE3 : ((e : Nat) : Int) + 3 < (n : Int) := by omega
                              have Hmn : Hid (Todo nt L (min (e + 1) n) re due) := hide (by rw [show min (e + 1) n = e + 1 by omega]; exact h9)
                              have hre2 : re.length ≤ rest.length := by simp at hre; omega
                              have Hf2 : Hid (SqIn L _ _ _ (min (e + 1) n)) := hide (by have := Hf.out.step Hs.out; rw [hLn] at this; exact this)
                              clear hy hy38 h9 hLn
                              go_wp2_with (go_at_call 21; (with_reducible refine (isWs_n _ false _ Hyw.out (Ht.out _ hgr.out)).mono ?_); rintro e' w' ⟨rfl, rfl⟩)
                              obtain ⟨s1, s2⟩ := S.out
                              have t1 : 0 ≤ (i : Int) + 1 := by omega
                              have t3 : ((i : Int) + 1).toNat = i + 1 := by omega
                              have t4 : ¬ c = j := by omega
                              have t5 : ¬ c = k := by omega
                              have t6 : j ≤ n := by omega
                              have t7 : k ≤ i + 1 := by omega
                              have t8 : (i : Int) + 1 ≤ (c : Int) := by omega
                              have t9 : (k : Int) ≤ (i : Int) + 1 := by omega
                              clear S
                              go_region_law ((with_reducible refine step_copy_runG Hrun2.out _ _ ?_ rfl rfl ?_ ?_ ?_); (rfl); (simp [Act.eval, Act.put]); (simp [Act.eval, Act.put]))
                              all_goals
                                clear s1 s2 t1 t3 t4 t5 t6 t7 t8 t9
                                go_wp2
                                go_roundg rest.length
                                case rel => exact ⟨n, _, _, e + 1, L, _, _, by assumption, rfl, by have := Hr2.out; go_num, rfl, by go_num, by omega, hnb, hL, Hf2, Hmn, Hb2, hide hgr3⟩
                                case measure => omega
                        · focus
                            have Hst : Hid (OwnB (wo.setCell ⟨g, i, none⟩ (.int .u8 32)) base (some ⟨g, 0, none⟩) n c (cur.set i 32)) := hide (ho.out.set_ i 32)
                            have hgr2 : w.grownBy (wo.setCell ⟨g, i, none⟩ (.int .u8 32)) (some g) := grown_set hgr.out (p := ⟨g, i, none⟩) (.inl rfl) (.int .u8 32)
                            have Hm2 : markAt L i e = 32 := by rw [Hmk.out]; rfl
                            have hLn := hL.out
                            obtain rfl : e = i + 1 := by omega
                            have hf : SqIn L (cur.set i 32) j k (i + 1) := by have := Hi.out.blank Hr.out; rw [Hm2] at this; exact this
                            have Hf := hide hf
                            clear hf Hm2
                            obtain ⟨hy, hy38, h9⟩ := hte.out.byte
                            have e38 := ne38 hy38
                            have cell2 := HcellN.out y hy
                            have Hyw := hide (Hs.out y hy)
                            have hen : (((i + 1) : Nat) : Int) < (n : Int) := by omega
                            have henb : (i : Int) + 1 < (n : Int) := by omega
                            have cellE := (Hst.out).cellI ((Hf.out.at_ (Nat.le_refl _)).trans hy)
                            have hE3 : (((i + 1) : Nat) : Int) + 3 < (n : Int) := by omega
                            have hE3b : (i : Int) + 1 + 3 < (n : Int) := by omega
                            have Hmn : Hid (Todo nt L (min ((i + 1) + 1) n) re due) := hide (by rw [show min ((i + 1) + 1) n = (i + 1) + 1 by omega]; exact h9)
                            have hre2 : re.length ≤ rest.length := by simp at hre; omega
                            have Hf2 : Hid (SqIn L _ _ _ (min ((i + 1) + 1) n)) := hide (by have := Hf.out.step Hs.out; rw [hLn] at this; exact this)
                            clear hy hy38 h9 hLn
                            go_wp2_with (go_at_call 21; (with_reducible refine (isWs_n _ false _ Hyw.out (Ht.out _ hgr.out)).mono ?_); rintro e' w' ⟨rfl, rfl⟩)
                            go_roundg rest.length
                            case rel => exact ⟨n, _, _, (i + 1) + 1, L, _, _, by assumption, rfl, rfl, rfl, by go_num, by omega, hnb, hL, Hf2, Hmn, Hst, hide hgr2⟩
                            case measure => omega
                      · by_cases h2 : i + 1 < e
                        · by_cases hj : j = 0
                          · focus
                              have Hst : Hid (OwnB (wo.setCell ⟨g, i, none⟩ (.int .u8 10)) base (some ⟨g, 0, none⟩) n c (cur.set i 10)) := hide (ho.out.set_ i 10)
                              have hgr2 : w.grownBy (wo.setCell ⟨g, i, none⟩ (.int .u8 10)) (some g) := grown_set hgr.out (p := ⟨g, i, none⟩) (.inl rfl) (.int .u8 10)
                              have Hm2 : markAt L i e = 10 := by rw [Hmk.out]; rfl
                              have hLn := hL.out
                              subst hj
                              have j0 : (((0 : Nat) : Int) == 0) = true := rfl
                              have hf : SqIn L (cur.set i 10) (i + 1) e e := by have := Hi.out.first Hr.out h2; rw [Hm2] at this; exact this
                              have Hf := hide hf
                              clear hf Hm2
                              obtain ⟨hy, hy38, h9⟩ := hte.out.byte
                              have e38 := ne38 hy38
                              have cell2 := HcellN.out y hy
                              have Hyw := hide (Hs.out y hy)
                              have hen : ((e : Nat) : Int) < (n : Int) := by omega
                              have cellE := (Hst.out).cellI ((Hf.out.at_ (Nat.le_refl _)).trans hy)
                              have hE3 : ((e : Nat) : Int) + 3 < (n : Int) := by omega
                              have Hmn : Hid (Todo nt L (min (e + 1) n) re due) := hide (by rw [show min (e + 1) n = e + 1 by omega]; exact h9)
                              have hre2 : re.length ≤ rest.length := by simp at hre; omega
                              have Hf2 : Hid (SqIn L _ _ _ (min (e + 1) n)) := hide (by have := Hf.out.step Hs.out; rw [hLn] at this; exact this)
                              clear hy hy38 h9 hLn
                              go_wp2_with (go_at_call 21; (with_reducible refine (isWs_n _ false _ Hyw.out (Ht.out _ hgr.out)).mono ?_); rintro e' w' ⟨rfl, rfl⟩)
                              go_roundg rest.length
                              case rel => exact ⟨n, _, _, e + 1, L, _, _, by assumption, rfl, by go_num, rfl, by go_num, by omega, hnb, hL, Hf2, Hmn, Hst, hide hgr2⟩
                              case measure => omega
                          · focus
                              have Hst : Hid (OwnB (wo.setCell ⟨g, i, none⟩ (.int .u8 10)) base (some ⟨g, 0, none⟩) n c (cur.set i 10)) := hide (ho.out.set_ i 10)
                              have hgr2 : w.grownBy (wo.setCell ⟨g, i, none⟩ (.int .u8 10)) (some g) := grown_set hgr.out (p := ⟨g, i, none⟩) (.inl rfl) (.int .u8 10)
                              have Hm2 : markAt L i e = 10 := by rw [Hmk.out]; rfl
                              have hLn := hL.out
                              have j0 : ((j : Int) == 0) = false := by rw [beq_eq_false_iff_ne]; omega
                              have hjk2 : 0 < j ∧ j < k := by have := Hbd.out; omega
                              have hf : SqIn L (moved (cur.set i 10) j k (i + 1)) (j + (i + 1 - k)) e e := by have := Hi.out.more (by omega) Hr.out h2; rw [Hm2] at this; exact this
                              obtain ⟨r, hr⟩ : ∃ r, r = i + 1 - k := ⟨_, rfl⟩
                              have hr2 : j + r ≤ n := by omega
                              obtain ⟨w2, hrun2, hb2, hg2⟩ := OwnB.move (Hst.out.drew) j k (i + 1) hjk2.2 (by omega) (by omega) (n - j) (c - j) (i + 1 - k) (c - k) r (by omega) rfl hr
                              have Hrun2 := hide hrun2
                              have Hb2 := hide hb2
                              have hgr3 : w.grownBy w2 (some g) := World.grownBy.trans (b := (wo.setCell ⟨g, i, none⟩ (.int .u8 10)).drew) ⟨hgr2.os, hgr2.tape, hgr2.output, hgr2.size, hgr2.block⟩ hg2
                              have s1 : IntKind.i64.wrap ((i : Int) + 1) = (i : Int) + 1 := IntWalk.i64_in _ (by omega)
                              have s2 : IntKind.i64.wrap ((j : Int) + (r : Int)) = (j : Int) + (r : Int) := IntWalk.i64_in _ (by omega)
                              have S := hide (And.intro s1 s2)
                              have Hr2 := hide hr
                              clear s1 s2 hrun2 hb2 hg2 hr
                              have Hf := hide hf
                              clear hf Hm2
                              obtain ⟨hy, hy38, h9⟩ := hte.out.byte
                              have e38 := ne38 hy38
                              have cell2 := HcellN.out y hy
                              have Hyw := hide (Hs.out y hy)
                              have hen : ((e : Nat) : Int) < (n : Int) := by omega
                              have cellE := (Hb2.out).cellI ((Hf.out.at_ (Nat.le_refl _)).trans hy)
                              have hE3 : ((e : Nat) : Int) + 3 < (n : Int) := by omega
                              have Hmn : Hid (Todo nt L (min (e + 1) n) re due) := hide (by rw [show min (e + 1) n = e + 1 by omega]; exact h9)
                              have hre2 : re.length ≤ rest.length := by simp at hre; omega
                              have Hf2 : Hid (SqIn L _ _ _ (min (e + 1) n)) := hide (by have := Hf.out.step Hs.out; rw [hLn] at this; exact this)
                              clear hy hy38 h9 hLn
                              go_wp2_with (go_at_call 21; (with_reducible refine (isWs_n _ false _ Hyw.out (Ht.out _ hgr.out)).mono ?_); rintro e' w' ⟨rfl, rfl⟩)
                              obtain ⟨s1, s2⟩ := S.out
                              have t1 : 0 ≤ (i : Int) + 1 := by omega
                              have t3 : ((i : Int) + 1).toNat = i + 1 := by omega
                              have t4 : ¬ c = j := by omega
                              have t5 : ¬ c = k := by omega
                              have t6 : j ≤ n := by omega
                              have t7 : k ≤ i + 1 := by omega
                              have t8 : (i : Int) + 1 ≤ (c : Int) := by omega
                              have t9 : (k : Int) ≤ (i : Int) + 1 := by omega
                              clear S
                              go_region_law ((with_reducible refine step_copy_runG Hrun2.out _ _ ?_ rfl rfl ?_ ?_ ?_); (rfl); (simp [Act.eval, Act.put]); (simp [Act.eval, Act.put]))
                              all_goals
                                clear s1 s2 t1 t3 t4 t5 t6 t7 t8 t9
                                go_wp2
                                go_roundg rest.length
                                case rel => exact ⟨n, _, _, e + 1, L, _, _, by assumption, rfl, by have := Hr2.out; go_num, rfl, by go_num, by omega, hnb, hL, Hf2, Hmn, Hb2, hide hgr3⟩
                                case measure => omega
                        · focus
                            have Hst : Hid (OwnB (wo.setCell ⟨g, i, none⟩ (.int .u8 10)) base (some ⟨g, 0, none⟩) n c (cur.set i 10)) := hide (ho.out.set_ i 10)
                            have hgr2 : w.grownBy (wo.setCell ⟨g, i, none⟩ (.int .u8 10)) (some g) := grown_set hgr.out (p := ⟨g, i, none⟩) (.inl rfl) (.int .u8 10)
                            have Hm2 : markAt L i e = 10 := by rw [Hmk.out]; rfl
                            have hLn := hL.out
                            obtain rfl : e = i + 1 := by omega
                            have hf : SqIn L (cur.set i 10) j k (i + 1) := by have := Hi.out.blank Hr.out; rw [Hm2] at this; exact this
                            have Hf := hide hf
                            clear hf Hm2
                            obtain ⟨hy, hy38, h9⟩ := hte.out.byte
                            have e38 := ne38 hy38
                            have cell2 := HcellN.out y hy
                            have Hyw := hide (Hs.out y hy)
                            have hen : (((i + 1) : Nat) : Int) < (n : Int) := by omega
                            have henb : (i : Int) + 1 < (n : Int) := by omega
                            have cellE := (Hst.out).cellI ((Hf.out.at_ (Nat.le_refl _)).trans hy)
                            have hE3 : (((i + 1) : Nat) : Int) + 3 < (n : Int) := by omega
                            have hE3b : (i : Int) + 1 + 3 < (n : Int) := by omega
                            have Hmn : Hid (Todo nt L (min ((i + 1) + 1) n) re due) := hide (by rw [show min ((i + 1) + 1) n = (i + 1) + 1 by omega]; exact h9)
                            have hre2 : re.length ≤ rest.length := by simp at hre; omega
                            have Hf2 : Hid (SqIn L _ _ _ (min ((i + 1) + 1) n)) := hide (by have := Hf.out.step Hs.out; rw [hLn] at this; exact this)
                            clear hy hy38 h9 hLn
                            go_wp2_with (go_at_call 21; (with_reducible refine (isWs_n _ false _ Hyw.out (Ht.out _ hgr.out)).mono ?_); rintro e' w' ⟨rfl, rfl⟩)
                            go_roundg rest.length
                            case rel => exact ⟨n, _, _, (i + 1) + 1, L, _, _, by assumption, rfl, rfl, rfl, by go_num, by omega, hnb, hL, Hf2, Hmn, Hst, hide hgr2⟩
                            case measure => omega
                    | ent f t =>
                      cases b
                      · by_cases h2 : i + 1 < e
                        · by_cases hj : j = 0
                          · focus
                              have Hst : Hid (OwnB (wo.setCell ⟨g, i, none⟩ (.int .u8 32)) base (some ⟨g, 0, none⟩) n c (cur.set i 32)) := hide (ho.out.set_ i 32)
                              have hgr2 : w.grownBy (wo.setCell ⟨g, i, none⟩ (.int .u8 32)) (some g) := grown_set hgr.out (p := ⟨g, i, none⟩) (.inl rfl) (.int .u8 32)
                              have Hm2 : markAt L i e = 32 := by rw [Hmk.out]; rfl
                              have hLn := hL.out
                              subst hj
                              have j0 : (((0 : Nat) : Int) == 0) = true := rfl
                              have hf : SqIn L (cur.set i 32) (i + 1) e e := by have := Hi.out.first Hr.out h2; rw [Hm2] at this; exact this
                              have Hf := hide hf
                              clear hf Hm2
                              have cell2 : wo.cell? ⟨g, e, none⟩ = some (.int .u8 38) := HcellN.out 38 (by obtain ⟨hl, he, _, _⟩ := hte.out.ent; have := hl.at_ (he.facts HN.out).2.1; rw [Nat.add_zero] at this; exact this)
                              have hen : ((e : Nat) : Int) < (n : Int) := by omega
                              obtain ⟨hl, he, hnext, hle⟩ := hte.out.ent
                              obtain ⟨f4, f0, t1, tf, tan⟩ := he.facts HN.out
                              have hlc := (Hf.out).lies hl
                              have hsq := (Hf.out).rep hl f0 t1 tan
                              have hcall := rep_any g n c e B base _ f t nt _ Hst.out hlc he HN.out (Hc.out.grown hgr2) (by omega)
                              have cellE := (Hst.out).cellI (hlc.at_ f0)
                              rw [Nat.add_zero] at cellE
                              have Hcall := hide hcall
                              have Hsq := hide hsq
                              have Hnext := hide hnext
                              have e38 : (((38 : UInt8).toNat : Int) == 38) = true := rfl
                              have hLn := hL.out
                              have hE3 : (((e : Nat) : Int) : Int) + 3 < (n : Int) := by omega
                              clear hcall hsq hnext hlc hl he f0 tan
                              have hre2 : re.length ≤ rest.length := by simp at hre; omega
                              go_wp2_with (first | (go_at_call 21; (with_reducible refine (isWs38 _ (Ht.out _ hgr.out)).mono ?_); rintro e' w' ⟨rfl, rfl⟩) | (go_at_call 23; (with_reducible refine Hcall.out.mono ?_); rintro e' w9 ⟨n', hn', rfl, own9, hg9⟩))
                              have Own9 := hide own9
                              have Hg9 := hide (World.grownBy.trans hgr2 hg9)
                              have hl9 := own9.len
                              have hle9 := Hnext.out.le
                              have hL9 := Hsq.out.1
                              have hm9 : min (e + t.length) n' = e + t.length := Nat.min_eq_left (by omega)
                              clear own9 hg9
                              go_wp2
                              go_roundg rest.length
                              case rel => exact ⟨n', (i + 1), e, e + t.length, _, _, _, hre2, rfl, by go_num, rfl, by first | rfl | go_num | (congr 1; omega), by omega, by omega, by rw [← hL9]; exact hl9, by rw [hm9]; exact Hsq, by rw [hm9]; exact Hnext, Own9, Hg9⟩
                              case measure => omega
                          · focus
                              have Hst : Hid (OwnB (wo.setCell ⟨g, i, none⟩ (.int .u8 32)) base (some ⟨g, 0, none⟩) n c (cur.set i 32)) := hide (ho.out.set_ i 32)
                              have hgr2 : w.grownBy (wo.setCell ⟨g, i, none⟩ (.int .u8 32)) (some g) := grown_set hgr.out (p := ⟨g, i, none⟩) (.inl rfl) (.int .u8 32)
                              have Hm2 : markAt L i e = 32 := by rw [Hmk.out]; rfl
                              have hLn := hL.out
                              have j0 : ((j : Int) == 0) = false := by rw [beq_eq_false_iff_ne]; omega
                              have hjk2 : 0 < j ∧ j < k := by have := Hbd.out; omega
                              have hf : SqIn L (moved (cur.set i 32) j k (i + 1)) (j + (i + 1 - k)) e e := by have := Hi.out.more (by omega) Hr.out h2; rw [Hm2] at this; exact this
                              obtain ⟨r, hr⟩ : ∃ r, r = i + 1 - k := ⟨_, rfl⟩
                              have hr2 : j + r ≤ n := by omega
                              obtain ⟨w2, hrun2, hb2, hg2⟩ := OwnB.move (Hst.out.drew) j k (i + 1) hjk2.2 (by omega) (by omega) (n - j) (c - j) (i + 1 - k) (c - k) r (by omega) rfl hr
                              have Hrun2 := hide hrun2
                              have Hb2 := hide hb2
                              have hgr3 : w.grownBy w2 (some g) := World.grownBy.trans (b := (wo.setCell ⟨g, i, none⟩ (.int .u8 32)).drew) ⟨hgr2.os, hgr2.tape, hgr2.output, hgr2.size, hgr2.block⟩ hg2
                              have s1 : IntKind.i64.wrap ((i : Int) + 1) = (i : Int) + 1 := IntWalk.i64_in _ (by omega)
                              have s2 : IntKind.i64.wrap ((j : Int) + (r : Int)) = (j : Int) + (r : Int) := IntWalk.i64_in _ (by omega)
                              have S := hide (And.intro s1 s2)
                              have Hr2 := hide hr
                              clear s1 s2 hrun2 hb2 hg2 hr
                              have Hf := hide hf
                              clear hf Hm2
                              have cell2 : wo.cell? ⟨g, e, none⟩ = some (.int .u8 38) := HcellN.out 38 (by obtain ⟨hl, he, _, _⟩ := hte.out.ent; have := hl.at_ (he.facts HN.out).2.1; rw [Nat.add_zero] at this; exact this)
                              have hen : ((e : Nat) : Int) < (n : Int) := by omega
                              obtain ⟨hl, he, hnext, hle⟩ := hte.out.ent
                              obtain ⟨f4, f0, t1, tf, tan⟩ := he.facts HN.out
                              have hlc := (Hf.out).lies hl
                              have hsq := (Hf.out).rep hl f0 t1 tan
                              have hcall := rep_any g n c e B base _ f t nt _ Hb2.out hlc he HN.out (Hc.out.grown hgr3) (by omega)
                              have cellE := (Hb2.out).cellI (hlc.at_ f0)
                              rw [Nat.add_zero] at cellE
                              have Hcall := hide hcall
                              have Hsq := hide hsq
                              have Hnext := hide hnext
                              have e38 : (((38 : UInt8).toNat : Int) == 38) = true := rfl
                              have hLn := hL.out
                              have hE3 : (((e : Nat) : Int) : Int) + 3 < (n : Int) := by omega
                              clear hcall hsq hnext hlc hl he f0 tan
                              have hre2 : re.length ≤ rest.length := by simp at hre; omega
                              go_wp2_with (go_at_call 21; (with_reducible refine (isWs38 _ (Ht.out _ hgr.out)).mono ?_); rintro e' w' ⟨rfl, rfl⟩)
                              obtain ⟨s1, s2⟩ := S.out
                              have t1 : 0 ≤ (i : Int) + 1 := by omega
                              have t3 : ((i : Int) + 1).toNat = i + 1 := by omega
                              have t4 : ¬ c = j := by omega
                              have t5 : ¬ c = k := by omega
                              have t6 : j ≤ n := by omega
                              have t7 : k ≤ i + 1 := by omega
                              have t8 : (i : Int) + 1 ≤ (c : Int) := by omega
                              have t9 : (k : Int) ≤ (i : Int) + 1 := by omega
                              clear S
                              go_region_law ((with_reducible refine step_copy_runG Hrun2.out _ _ ?_ rfl rfl ?_ ?_ ?_); (rfl); (simp [Act.eval, Act.put]); (simp [Act.eval, Act.put]))
                              all_goals
                                clear s1 s2 t1 t3 t4 t5 t6 t7 t8 t9
                                go_wp2_with (first | (go_at_call 21; (with_reducible refine (isWs38 _ (Ht.out _ hgr.out)).mono ?_); rintro e' w' ⟨rfl, rfl⟩) | (go_at_call 23; (with_reducible refine Hcall.out.mono ?_); rintro e' w9 ⟨n', hn', rfl, own9, hg9⟩))
                                have Own9 := hide own9
                                have Hg9 := hide (World.grownBy.trans hgr3 hg9)
                                have hl9 := own9.len
                                have hle9 := Hnext.out.le
                                have hL9 := Hsq.out.1
                                have hm9 : min (e + t.length) n' = e + t.length := Nat.min_eq_left (by omega)
                                clear own9 hg9
                                go_wp2
                                go_roundg rest.length
                                case rel => exact ⟨n', (j + (i + 1 - k)), e, e + t.length, _, _, _, hre2, rfl, by have := Hr2.out; go_num, rfl, by first | rfl | go_num | (congr 1; omega), by omega, by omega, by rw [← hL9]; exact hl9, by rw [hm9]; exact Hsq, by rw [hm9]; exact Hnext, Own9, Hg9⟩
                                case measure => omega
                        · focus
                            have Hst : Hid (OwnB (wo.setCell ⟨g, i, none⟩ (.int .u8 32)) base (some ⟨g, 0, none⟩) n c (cur.set i 32)) := hide (ho.out.set_ i 32)
                            have hgr2 : w.grownBy (wo.setCell ⟨g, i, none⟩ (.int .u8 32)) (some g) := grown_set hgr.out (p := ⟨g, i, none⟩) (.inl rfl) (.int .u8 32)
                            have Hm2 : markAt L i e = 32 := by rw [Hmk.out]; rfl
                            have hLn := hL.out
                            obtain rfl : e = i + 1 := by omega
                            have hf : SqIn L (cur.set i 32) j k (i + 1) := by have := Hi.out.blank Hr.out; rw [Hm2] at this; exact this
                            have Hf := hide hf
                            clear hf Hm2
                            have cell2 : wo.cell? ⟨g, (i + 1), none⟩ = some (.int .u8 38) := HcellN.out 38 (by obtain ⟨hl, he, _, _⟩ := hte.out.ent; have := hl.at_ (he.facts HN.out).2.1; rw [Nat.add_zero] at this; exact this)
                            have hen : (((i + 1) : Nat) : Int) < (n : Int) := by omega
                            have henb : (i : Int) + 1 < (n : Int) := by omega
                            obtain ⟨hl, he, hnext, hle⟩ := hte.out.ent
                            obtain ⟨f4, f0, t1, tf, tan⟩ := he.facts HN.out
                            have hlc := (Hf.out).lies hl
                            have hsq := (Hf.out).rep hl f0 t1 tan
                            have hcall := rep_any g n c (i + 1) B base _ f t nt _ Hst.out hlc he HN.out (Hc.out.grown hgr2) (by omega)
                            push_cast at hcall
                            have cellE := (Hst.out).cellI (hlc.at_ f0)
                            rw [Nat.add_zero] at cellE
                            have Hcall := hide hcall
                            have Hsq := hide hsq
                            have Hnext := hide hnext
                            have e38 : (((38 : UInt8).toNat : Int) == 38) = true := rfl
                            have hLn := hL.out
                            have hE3 : ((((i + 1) : Nat) : Int) : Int) + 3 < (n : Int) := by omega
                            clear hcall hsq hnext hlc hl he f0 tan
                            have hE3b : (i : Int) + 1 + 3 < (n : Int) := by omega
                            have hre2 : re.length ≤ rest.length := by simp at hre; omega
                            go_wp2_with (first | (go_at_call 21; (with_reducible refine (isWs38 _ (Ht.out _ hgr.out)).mono ?_); rintro e' w' ⟨rfl, rfl⟩) | (go_at_call 23; (with_reducible refine Hcall.out.mono ?_); rintro e' w9 ⟨n', hn', rfl, own9, hg9⟩))
                            have Own9 := hide own9
                            have Hg9 := hide (World.grownBy.trans hgr2 hg9)
                            have hl9 := own9.len
                            have hle9 := Hnext.out.le
                            have hL9 := Hsq.out.1
                            have hm9 : min ((i + 1) + t.length) n' = (i + 1) + t.length := Nat.min_eq_left (by omega)
                            clear own9 hg9
                            go_wp2
                            go_roundg rest.length
                            case rel => exact ⟨n', j, k, (i + 1) + t.length, _, _, _, hre2, rfl, rfl, rfl, by first | rfl | go_num | (congr 1; omega), by omega, by omega, by rw [← hL9]; exact hl9, by rw [hm9]; exact Hsq, by rw [hm9]; exact Hnext, Own9, Hg9⟩
                            case measure => omega
                      · by_cases h2 : i + 1 < e
                        · by_cases hj : j = 0
                          · focus
                              have Hst : Hid (OwnB (wo.setCell ⟨g, i, none⟩ (.int .u8 10)) base (some ⟨g, 0, none⟩) n c (cur.set i 10)) := hide (ho.out.set_ i 10)
                              have hgr2 : w.grownBy (wo.setCell ⟨g, i, none⟩ (.int .u8 10)) (some g) := grown_set hgr.out (p := ⟨g, i, none⟩) (.inl rfl) (.int .u8 10)
                              have Hm2 : markAt L i e = 10 := by rw [Hmk.out]; rfl
                              have hLn := hL.out
                              subst hj
                              have j0 : (((0 : Nat) : Int) == 0) = true := rfl
                              have hf : SqIn L (cur.set i 10) (i + 1) e e := by have := Hi.out.first Hr.out h2; rw [Hm2] at this; exact this
                              have Hf := hide hf
                              clear hf Hm2
                              have cell2 : wo.cell? ⟨g, e, none⟩ = some (.int .u8 38) := HcellN.out 38 (by obtain ⟨hl, he, _, _⟩ := hte.out.ent; have := hl.at_ (he.facts HN.out).2.1; rw [Nat.add_zero] at this; exact this)
                              have hen : ((e : Nat) : Int) < (n : Int) := by omega
                              obtain ⟨hl, he, hnext, hle⟩ := hte.out.ent
                              obtain ⟨f4, f0, t1, tf, tan⟩ := he.facts HN.out
                              have hlc := (Hf.out).lies hl
                              have hsq := (Hf.out).rep hl f0 t1 tan
                              have hcall := rep_any g n c e B base _ f t nt _ Hst.out hlc he HN.out (Hc.out.grown hgr2) (by omega)
                              have cellE := (Hst.out).cellI (hlc.at_ f0)
                              rw [Nat.add_zero] at cellE
                              have Hcall := hide hcall
                              have Hsq := hide hsq
                              have Hnext := hide hnext
                              have e38 : (((38 : UInt8).toNat : Int) == 38) = true := rfl
                              have hLn := hL.out
                              have hE3 : (((e : Nat) : Int) : Int) + 3 < (n : Int) := by omega
                              clear hcall hsq hnext hlc hl he f0 tan
                              have hre2 : re.length ≤ rest.length := by simp at hre; omega
                              go_wp2_with (first | (go_at_call 21; (with_reducible refine (isWs38 _ (Ht.out _ hgr.out)).mono ?_); rintro e' w' ⟨rfl, rfl⟩) | (go_at_call 23; (with_reducible refine Hcall.out.mono ?_); rintro e' w9 ⟨n', hn', rfl, own9, hg9⟩))
                              have Own9 := hide own9
                              have Hg9 := hide (World.grownBy.trans hgr2 hg9)
                              have hl9 := own9.len
                              have hle9 := Hnext.out.le
                              have hL9 := Hsq.out.1
                              have hm9 : min (e + t.length) n' = e + t.length := Nat.min_eq_left (by omega)
                              clear own9 hg9
                              go_wp2
                              go_roundg rest.length
                              case rel => exact ⟨n', (i + 1), e, e + t.length, _, _, _, hre2, rfl, by go_num, rfl, by first | rfl | go_num | (congr 1; omega), by omega, by omega, by rw [← hL9]; exact hl9, by rw [hm9]; exact Hsq, by rw [hm9]; exact Hnext, Own9, Hg9⟩
                              case measure => omega
                          · focus
                              have Hst : Hid (OwnB (wo.setCell ⟨g, i, none⟩ (.int .u8 10)) base (some ⟨g, 0, none⟩) n c (cur.set i 10)) := hide (ho.out.set_ i 10)
                              have hgr2 : w.grownBy (wo.setCell ⟨g, i, none⟩ (.int .u8 10)) (some g) := grown_set hgr.out (p := ⟨g, i, none⟩) (.inl rfl) (.int .u8 10)
                              have Hm2 : markAt L i e = 10 := by rw [Hmk.out]; rfl
                              have hLn := hL.out
                              have j0 : ((j : Int) == 0) = false := by rw [beq_eq_false_iff_ne]; omega
                              have hjk2 : 0 < j ∧ j < k := by have := Hbd.out; omega
                              have hf : SqIn L (moved (cur.set i 10) j k (i + 1)) (j + (i + 1 - k)) e e := by have := Hi.out.more (by omega) Hr.out h2; rw [Hm2] at this; exact this
                              obtain ⟨r, hr⟩ : ∃ r, r = i + 1 - k := ⟨_, rfl⟩
                              have hr2 : j + r ≤ n := by omega
                              obtain ⟨w2, hrun2, hb2, hg2⟩ := OwnB.move (Hst.out.drew) j k (i + 1) hjk2.2 (by omega) (by omega) (n - j) (c - j) (i + 1 - k) (c - k) r (by omega) rfl hr
                              have Hrun2 := hide hrun2
                              have Hb2 := hide hb2
                              have hgr3 : w.grownBy w2 (some g) := World.grownBy.trans (b := (wo.setCell ⟨g, i, none⟩ (.int .u8 10)).drew) ⟨hgr2.os, hgr2.tape, hgr2.output, hgr2.size, hgr2.block⟩ hg2
                              have s1 : IntKind.i64.wrap ((i : Int) + 1) = (i : Int) + 1 := IntWalk.i64_in _ (by omega)
                              have s2 : IntKind.i64.wrap ((j : Int) + (r : Int)) = (j : Int) + (r : Int) := IntWalk.i64_in _ (by omega)
                              have S := hide (And.intro s1 s2)
                              have Hr2 := hide hr
                              clear s1 s2 hrun2 hb2 hg2 hr
                              have Hf := hide hf
                              clear hf Hm2
                              have cell2 : wo.cell? ⟨g, e, none⟩ = some (.int .u8 38) := HcellN.out 38 (by obtain ⟨hl, he, _, _⟩ := hte.out.ent; have := hl.at_ (he.facts HN.out).2.1; rw [Nat.add_zero] at this; exact this)
                              have hen : ((e : Nat) : Int) < (n : Int) := by omega
                              obtain ⟨hl, he, hnext, hle⟩ := hte.out.ent
                              obtain ⟨f4, f0, t1, tf, tan⟩ := he.facts HN.out
                              have hlc := (Hf.out).lies hl
                              have hsq := (Hf.out).rep hl f0 t1 tan
                              have hcall := rep_any g n c e B base _ f t nt _ Hb2.out hlc he HN.out (Hc.out.grown hgr3) (by omega)
                              have cellE := (Hb2.out).cellI (hlc.at_ f0)
                              rw [Nat.add_zero] at cellE
                              have Hcall := hide hcall
                              have Hsq := hide hsq
                              have Hnext := hide hnext
                              have e38 : (((38 : UInt8).toNat : Int) == 38) = true := rfl
                              have hLn := hL.out
                              have hE3 : (((e : Nat) : Int) : Int) + 3 < (n : Int) := by omega
                              clear hcall hsq hnext hlc hl he f0 tan
                              have hre2 : re.length ≤ rest.length := by simp at hre; omega
                              go_wp2_with (go_at_call 21; (with_reducible refine (isWs38 _ (Ht.out _ hgr.out)).mono ?_); rintro e' w' ⟨rfl, rfl⟩)
                              obtain ⟨s1, s2⟩ := S.out
                              have t1 : 0 ≤ (i : Int) + 1 := by omega
                              have t3 : ((i : Int) + 1).toNat = i + 1 := by omega
                              have t4 : ¬ c = j := by omega
                              have t5 : ¬ c = k := by omega
                              have t6 : j ≤ n := by omega
                              have t7 : k ≤ i + 1 := by omega
                              have t8 : (i : Int) + 1 ≤ (c : Int) := by omega
                              have t9 : (k : Int) ≤ (i : Int) + 1 := by omega
                              clear S
                              go_region_law ((with_reducible refine step_copy_runG Hrun2.out _ _ ?_ rfl rfl ?_ ?_ ?_); (rfl); (simp [Act.eval, Act.put]); (simp [Act.eval, Act.put]))
                              all_goals
                                clear s1 s2 t1 t3 t4 t5 t6 t7 t8 t9
                                go_wp2_with (first | (go_at_call 21; (with_reducible refine (isWs38 _ (Ht.out _ hgr.out)).mono ?_); rintro e' w' ⟨rfl, rfl⟩) | (go_at_call 23; (with_reducible refine Hcall.out.mono ?_); rintro e' w9 ⟨n', hn', rfl, own9, hg9⟩))
                                have Own9 := hide own9
                                have Hg9 := hide (World.grownBy.trans hgr3 hg9)
                                have hl9 := own9.len
                                have hle9 := Hnext.out.le
                                have hL9 := Hsq.out.1
                                have hm9 : min (e + t.length) n' = e + t.length := Nat.min_eq_left (by omega)
                                clear own9 hg9
                                go_wp2
                                go_roundg rest.length
                                case rel => exact ⟨n', (j + (i + 1 - k)), e, e + t.length, _, _, _, hre2, rfl, by have := Hr2.out; go_num, rfl, by first | rfl | go_num | (congr 1; omega), by omega, by omega, by rw [← hL9]; exact hl9, by rw [hm9]; exact Hsq, by rw [hm9]; exact Hnext, Own9, Hg9⟩
                                case measure => omega
                        · focus
                            have Hst : Hid (OwnB (wo.setCell ⟨g, i, none⟩ (.int .u8 10)) base (some ⟨g, 0, none⟩) n c (cur.set i 10)) := hide (ho.out.set_ i 10)
                            have hgr2 : w.grownBy (wo.setCell ⟨g, i, none⟩ (.int .u8 10)) (some g) := grown_set hgr.out (p := ⟨g, i, none⟩) (.inl rfl) (.int .u8 10)
                            have Hm2 : markAt L i e = 10 := by rw [Hmk.out]; rfl
                            have hLn := hL.out
                            obtain rfl : e = i + 1 := by omega
                            have hf : SqIn L (cur.set i 10) j k (i + 1) := by have := Hi.out.blank Hr.out; rw [Hm2] at this; exact this
                            have Hf := hide hf
                            clear hf Hm2
                            have cell2 : wo.cell? ⟨g, (i + 1), none⟩ = some (.int .u8 38) := HcellN.out 38 (by obtain ⟨hl, he, _, _⟩ := hte.out.ent; have := hl.at_ (he.facts HN.out).2.1; rw [Nat.add_zero] at this; exact this)
                            have hen : (((i + 1) : Nat) : Int) < (n : Int) := by omega
                            have henb : (i : Int) + 1 < (n : Int) := by omega
                            obtain ⟨hl, he, hnext, hle⟩ := hte.out.ent
                            obtain ⟨f4, f0, t1, tf, tan⟩ := he.facts HN.out
                            have hlc := (Hf.out).lies hl
                            have hsq := (Hf.out).rep hl f0 t1 tan
                            have hcall := rep_any g n c (i + 1) B base _ f t nt _ Hst.out hlc he HN.out (Hc.out.grown hgr2) (by omega)
                            push_cast at hcall
                            have cellE := (Hst.out).cellI (hlc.at_ f0)
                            rw [Nat.add_zero] at cellE
                            have Hcall := hide hcall
                            have Hsq := hide hsq
                            have Hnext := hide hnext
                            have e38 : (((38 : UInt8).toNat : Int) == 38) = true := rfl
                            have hLn := hL.out
                            have hE3 : ((((i + 1) : Nat) : Int) : Int) + 3 < (n : Int) := by omega
                            clear hcall hsq hnext hlc hl he f0 tan
                            have hE3b : (i : Int) + 1 + 3 < (n : Int) := by omega
                            have hre2 : re.length ≤ rest.length := by simp at hre; omega
                            go_wp2_with (first | (go_at_call 21; (with_reducible refine (isWs38 _ (Ht.out _ hgr.out)).mono ?_); rintro e' w' ⟨rfl, rfl⟩) | (go_at_call 23; (with_reducible refine Hcall.out.mono ?_); rintro e' w9 ⟨n', hn', rfl, own9, hg9⟩))
                            have Own9 := hide own9
                            have Hg9 := hide (World.grownBy.trans hgr2 hg9)
                            have hl9 := own9.len
                            have hle9 := Hnext.out.le
                            have hL9 := Hsq.out.1
                            have hm9 : min ((i + 1) + t.length) n' = (i + 1) + t.length := Nat.min_eq_left (by omega)
                            clear own9 hg9
                            go_wp2
                            go_roundg rest.length
                            case rel => exact ⟨n', j, k, (i + 1) + t.length, _, _, _, hre2, rfl, rfl, rfl, by first | rfl | go_num | (congr 1; omega), by omega, by omega, by rw [← hL9]; exact hl9, by rw [hm9]; exact Hsq, by rw [hm9]; exact Hnext, Own9, Hg9⟩
                            case measure => omega
                · cases re with
                  | nil =>
                    have HEN : Hid (e = n) := hide (by have := hte.out.done.1; have := hL.out; omega)
                    cases b
                    · by_cases h2 : i + 1 < e
                      · by_cases hj : j = 0
                        · focus
                            have Hst : Hid (OwnB (wo.setCell ⟨g, i, none⟩ (.int .u8 32)) base (some ⟨g, 0, none⟩) n c (cur.set i 32)) := hide (ho.out.set_ i 32)
                            have hgr2 : w.grownBy (wo.setCell ⟨g, i, none⟩ (.int .u8 32)) (some g) := grown_set hgr.out (p := ⟨g, i, none⟩) (.inl rfl) (.int .u8 32)
                            have Hm2 : markAt L i e = 32 := by rw [Hmk.out]; rfl
                            have hLn := hL.out
                            subst hj
                            have j0 : (((0 : Nat) : Int) == 0) = true := rfl
                            have hf : SqIn L (cur.set i 32) (i + 1) e e := by have := Hi.out.first Hr.out h2; rw [Hm2] at this; exact this
                            have Hf := hide hf
                            clear hf Hm2
                            have hen1 := HEN.out
                            have hnn : ¬ ((e : Nat) : Int) < (n : Int) := by omega
                            have hE3 : ¬ ((e : Nat) : Int) + 3 < (n : Int) := by omega
                            have Hmn : Hid (Todo nt L (min (e + 1) n) [] due) := hide (by rw [show min (e + 1) n = e by omega]; exact hte.out)
                            have hre2 : ([] : List It).length ≤ rest.length := by simp
                            have Hf2 : Hid (SqIn L _ _ _ (min (e + 1) n)) := hide (by have := Hf.out.step Hs.out; rw [hLn] at this; exact this)
                            clear hLn hen1
                            go_wp2
                            go_roundg rest.length
                            case rel => exact ⟨n, _, _, e + 1, L, _, _, by assumption, rfl, by go_num, rfl, by go_num, by omega, hnb, hL, Hf2, Hmn, Hst, hide hgr2⟩
                            case measure => omega
                        · focus
                            have Hst : Hid (OwnB (wo.setCell ⟨g, i, none⟩ (.int .u8 32)) base (some ⟨g, 0, none⟩) n c (cur.set i 32)) := hide (ho.out.set_ i 32)
                            have hgr2 : w.grownBy (wo.setCell ⟨g, i, none⟩ (.int .u8 32)) (some g) := grown_set hgr.out (p := ⟨g, i, none⟩) (.inl rfl) (.int .u8 32)
                            have Hm2 : markAt L i e = 32 := by rw [Hmk.out]; rfl
                            have hLn := hL.out
                            have j0 : ((j : Int) == 0) = false := by rw [beq_eq_false_iff_ne]; omega
                            have hjk2 : 0 < j ∧ j < k := by have := Hbd.out; omega
                            have hf : SqIn L (moved (cur.set i 32) j k (i + 1)) (j + (i + 1 - k)) e e := by have := Hi.out.more (by omega) Hr.out h2; rw [Hm2] at this; exact this
                            obtain ⟨r, hr⟩ : ∃ r, r = i + 1 - k := ⟨_, rfl⟩
                            have hr2 : j + r ≤ n := by omega
                            obtain ⟨w2, hrun2, hb2, hg2⟩ := OwnB.move (Hst.out.drew) j k (i + 1) hjk2.2 (by omega) (by omega) (n - j) (c - j) (i + 1 - k) (c - k) r (by omega) rfl hr
                            have Hrun2 := hide hrun2
                            have Hb2 := hide hb2
                            have hgr3 : w.grownBy w2 (some g) := World.grownBy.trans (b := (wo.setCell ⟨g, i, none⟩ (.int .u8 32)).drew) ⟨hgr2.os, hgr2.tape, hgr2.output, hgr2.size, hgr2.block⟩ hg2
                            have s1 : IntKind.i64.wrap ((i : Int) + 1) = (i : Int) + 1 := IntWalk.i64_in _ (by omega)
                            have s2 : IntKind.i64.wrap ((j : Int) + (r : Int)) = (j : Int) + (r : Int) := IntWalk.i64_in _ (by omega)
                            have S := hide (And.intro s1 s2)
                            have Hr2 := hide hr
                            clear s1 s2 hrun2 hb2 hg2 hr
                            have Hf := hide hf
                            clear hf Hm2
                            have hen1 := HEN.out
                            have hnn : ¬ ((e : Nat) : Int) < (n : Int) := by omega
                            have hE3 : ¬ ((e : Nat) : Int) + 3 < (n : Int) := by omega
                            have Hmn : Hid (Todo nt L (min (e + 1) n) [] due) := hide (by rw [show min (e + 1) n = e by omega]; exact hte.out)
                            have hre2 : ([] : List It).length ≤ rest.length := by simp
                            have Hf2 : Hid (SqIn L _ _ _ (min (e + 1) n)) := hide (by have := Hf.out.step Hs.out; rw [hLn] at this; exact this)
                            clear hLn hen1
                            go_wp2
                            obtain ⟨s1, s2⟩ := S.out
                            have t1 : 0 ≤ (i : Int) + 1 := by omega
                            have t3 : ((i : Int) + 1).toNat = i + 1 := by omega
                            have t4 : ¬ c = j := by omega
                            have t5 : ¬ c = k := by omega
                            have t6 : j ≤ n := by omega
                            have t7 : k ≤ i + 1 := by omega
                            have t8 : (i : Int) + 1 ≤ (c : Int) := by omega
                            have t9 : (k : Int) ≤ (i : Int) + 1 := by omega
                            clear S
                            go_region_law ((with_reducible refine step_copy_runG Hrun2.out _ _ ?_ rfl rfl ?_ ?_ ?_); (rfl); (simp [Act.eval, Act.put]); (simp [Act.eval, Act.put]))
                            all_goals
                              clear s1 s2 t1 t3 t4 t5 t6 t7 t8 t9
                              go_wp2
                              go_roundg rest.length
                              case rel => exact ⟨n, _, _, e + 1, L, _, _, by assumption, rfl, by have := Hr2.out; go_num, rfl, by go_num, by omega, hnb, hL, Hf2, Hmn, Hb2, hide hgr3⟩
                              case measure => omega
                      · focus
                          have Hst : Hid (OwnB (wo.setCell ⟨g, i, none⟩ (.int .u8 32)) base (some ⟨g, 0, none⟩) n c (cur.set i 32)) := hide (ho.out.set_ i 32)
                          have hgr2 : w.grownBy (wo.setCell ⟨g, i, none⟩ (.int .u8 32)) (some g) := grown_set hgr.out (p := ⟨g, i, none⟩) (.inl rfl) (.int .u8 32)
                          have Hm2 : markAt L i e = 32 := by rw [Hmk.out]; rfl
                          have hLn := hL.out
                          obtain rfl : e = i + 1 := by omega
                          have hf : SqIn L (cur.set i 32) j k (i + 1) := by have := Hi.out.blank Hr.out; rw [Hm2] at this; exact this
                          have Hf := hide hf
                          clear hf Hm2
                          have hen1 := HEN.out
                          have hnn : ¬ (((i + 1) : Nat) : Int) < (n : Int) := by omega
                          have hnnb : ¬ (i : Int) + 1 < (n : Int) := by omega
                          have hE3 : ¬ (((i + 1) : Nat) : Int) + 3 < (n : Int) := by omega
                          have hE3b : ¬ (i : Int) + 1 + 3 < (n : Int) := by omega
                          have Hmn : Hid (Todo nt L (min ((i + 1) + 1) n) [] due) := hide (by rw [show min ((i + 1) + 1) n = (i + 1) by omega]; exact hte.out)
                          have hre2 : ([] : List It).length ≤ rest.length := by simp
                          have Hf2 : Hid (SqIn L _ _ _ (min ((i + 1) + 1) n)) := hide (by have := Hf.out.step Hs.out; rw [hLn] at this; exact this)
                          clear hLn hen1
                          go_wp2
                          go_roundg rest.length
                          case rel => exact ⟨n, _, _, (i + 1) + 1, L, _, _, by assumption, rfl, rfl, rfl, by go_num, by omega, hnb, hL, Hf2, Hmn, Hst, hide hgr2⟩
                          case measure => omega
                    · by_cases h2 : i + 1 < e
                      · by_cases hj : j = 0
                        · focus
                            have Hst : Hid (OwnB (wo.setCell ⟨g, i, none⟩ (.int .u8 10)) base (some ⟨g, 0, none⟩) n c (cur.set i 10)) := hide (ho.out.set_ i 10)
                            have hgr2 : w.grownBy (wo.setCell ⟨g, i, none⟩ (.int .u8 10)) (some g) := grown_set hgr.out (p := ⟨g, i, none⟩) (.inl rfl) (.int .u8 10)
                            have Hm2 : markAt L i e = 10 := by rw [Hmk.out]; rfl
                            have hLn := hL.out
                            subst hj
                            have j0 : (((0 : Nat) : Int) == 0) = true := rfl
                            have hf : SqIn L (cur.set i 10) (i + 1) e e := by have := Hi.out.first Hr.out h2; rw [Hm2] at this; exact this
                            have Hf := hide hf
                            clear hf Hm2
                            have hen1 := HEN.out
                            have hnn : ¬ ((e : Nat) : Int) < (n : Int) := by omega
                            have hE3 : ¬ ((e : Nat) : Int) + 3 < (n : Int) := by omega
                            have Hmn : Hid (Todo nt L (min (e + 1) n) [] due) := hide (by rw [show min (e + 1) n = e by omega]; exact hte.out)
                            have hre2 : ([] : List It).length ≤ rest.length := by simp
                            have Hf2 : Hid (SqIn L _ _ _ (min (e + 1) n)) := hide (by have := Hf.out.step Hs.out; rw [hLn] at this; exact this)
                            clear hLn hen1
                            go_wp2
                            go_roundg rest.length
                            case rel => exact ⟨n, _, _, e + 1, L, _, _, by assumption, rfl, by go_num, rfl, by go_num, by omega, hnb, hL, Hf2, Hmn, Hst, hide hgr2⟩
                            case measure => omega
                        · focus
                            have Hst : Hid (OwnB (wo.setCell ⟨g, i, none⟩ (.int .u8 10)) base (some ⟨g, 0, none⟩) n c (cur.set i 10)) := hide (ho.out.set_ i 10)
                            have hgr2 : w.grownBy (wo.setCell ⟨g, i, none⟩ (.int .u8 10)) (some g) := grown_set hgr.out (p := ⟨g, i, none⟩) (.inl rfl) (.int .u8 10)
                            have Hm2 : markAt L i e = 10 := by rw [Hmk.out]; rfl
                            have hLn := hL.out
                            have j0 : ((j : Int) == 0) = false := by rw [beq_eq_false_iff_ne]; omega
                            have hjk2 : 0 < j ∧ j < k := by have := Hbd.out; omega
                            have hf : SqIn L (moved (cur.set i 10) j k (i + 1)) (j + (i + 1 - k)) e e := by have := Hi.out.more (by omega) Hr.out h2; rw [Hm2] at this; exact this
                            obtain ⟨r, hr⟩ : ∃ r, r = i + 1 - k := ⟨_, rfl⟩
                            have hr2 : j + r ≤ n := by omega
                            obtain ⟨w2, hrun2, hb2, hg2⟩ := OwnB.move (Hst.out.drew) j k (i + 1) hjk2.2 (by omega) (by omega) (n - j) (c - j) (i + 1 - k) (c - k) r (by omega) rfl hr
                            have Hrun2 := hide hrun2
                            have Hb2 := hide hb2
                            have hgr3 : w.grownBy w2 (some g) := World.grownBy.trans (b := (wo.setCell ⟨g, i, none⟩ (.int .u8 10)).drew) ⟨hgr2.os, hgr2.tape, hgr2.output, hgr2.size, hgr2.block⟩ hg2
                            have s1 : IntKind.i64.wrap ((i : Int) + 1) = (i : Int) + 1 := IntWalk.i64_in _ (by omega)
                            have s2 : IntKind.i64.wrap ((j : Int) + (r : Int)) = (j : Int) + (r : Int) := IntWalk.i64_in _ (by omega)
                            have S := hide (And.intro s1 s2)
                            have Hr2 := hide hr
                            clear s1 s2 hrun2 hb2 hg2 hr
                            have Hf := hide hf
                            clear hf Hm2
                            have hen1 := HEN.out
                            have hnn : ¬ ((e : Nat) : Int) < (n : Int) := by omega
                            have hE3 : ¬ ((e : Nat) : Int) + 3 < (n : Int) := by omega
                            have Hmn : Hid (Todo nt L (min (e + 1) n) [] due) := hide (by rw [show min (e + 1) n = e by omega]; exact hte.out)
                            have hre2 : ([] : List It).length ≤ rest.length := by simp
                            have Hf2 : Hid (SqIn L _ _ _ (min (e + 1) n)) := hide (by have := Hf.out.step Hs.out; rw [hLn] at this; exact this)
                            clear hLn hen1
                            go_wp2
                            obtain ⟨s1, s2⟩ := S.out
                            have t1 : 0 ≤ (i : Int) + 1 := by omega
                            have t3 : ((i : Int) + 1).toNat = i + 1 := by omega
                            have t4 : ¬ c = j := by omega
                            have t5 : ¬ c = k := by omega
                            have t6 : j ≤ n := by omega
                            have t7 : k ≤ i + 1 := by omega
                            have t8 : (i : Int) + 1 ≤ (c : Int) := by omega
                            have t9 : (k : Int) ≤ (i : Int) + 1 := by omega
                            clear S
                            go_region_law ((with_reducible refine step_copy_runG Hrun2.out _ _ ?_ rfl rfl ?_ ?_ ?_); (rfl); (simp [Act.eval, Act.put]); (simp [Act.eval, Act.put]))
                            all_goals
                              clear s1 s2 t1 t3 t4 t5 t6 t7 t8 t9
                              go_wp2
                              go_roundg rest.length
                              case rel => exact ⟨n, _, _, e + 1, L, _, _, by assumption, rfl, by have := Hr2.out; go_num, rfl, by go_num, by omega, hnb, hL, Hf2, Hmn, Hb2, hide hgr3⟩
                              case measure => omega
                      · focus
                          have Hst : Hid (OwnB (wo.setCell ⟨g, i, none⟩ (.int .u8 10)) base (some ⟨g, 0, none⟩) n c (cur.set i 10)) := hide (ho.out.set_ i 10)
                          have hgr2 : w.grownBy (wo.setCell ⟨g, i, none⟩ (.int .u8 10)) (some g) := grown_set hgr.out (p := ⟨g, i, none⟩) (.inl rfl) (.int .u8 10)
                          have Hm2 : markAt L i e = 10 := by rw [Hmk.out]; rfl
                          have hLn := hL.out
                          obtain rfl : e = i + 1 := by omega
                          have hf : SqIn L (cur.set i 10) j k (i + 1) := by have := Hi.out.blank Hr.out; rw [Hm2] at this; exact this
                          have Hf := hide hf
                          clear hf Hm2
                          have hen1 := HEN.out
                          have hnn : ¬ (((i + 1) : Nat) : Int) < (n : Int) := by omega
                          have hnnb : ¬ (i : Int) + 1 < (n : Int) := by omega
                          have hE3 : ¬ (((i + 1) : Nat) : Int) + 3 < (n : Int) := by omega
                          have hE3b : ¬ (i : Int) + 1 + 3 < (n : Int) := by omega
                          have Hmn : Hid (Todo nt L (min ((i + 1) + 1) n) [] due) := hide (by rw [show min ((i + 1) + 1) n = (i + 1) by omega]; exact hte.out)
                          have hre2 : ([] : List It).length ≤ rest.length := by simp
                          have Hf2 : Hid (SqIn L _ _ _ (min ((i + 1) + 1) n)) := hide (by have := Hf.out.step Hs.out; rw [hLn] at this; exact this)
                          clear hLn hen1
                          go_wp2
                          go_roundg rest.length
                          case rel => exact ⟨n, _, _, (i + 1) + 1, L, _, _, by assumption, rfl, rfl, rfl, by go_num, by omega, hnb, hL, Hf2, Hmn, Hst, hide hgr2⟩
                          case measure => omega
                  | cons it re =>
                    cases it with
                    | ent f t =>
                      exfalso
                      obtain ⟨hl, he, _, hle⟩ := hte.out.ent
                      have := (he.facts HN.out).1
                      have := hL.out
                      omega
                    | byte y =>
                      have hen0 : e < n := by have := (List.getElem?_eq_some_iff.1 hte.out.byte.1).1; have := hL.out; omega
                      cases b
                      · by_cases h2 : i + 1 < e
                        · by_cases hj : j = 0
                          · focus
                              have Hst : Hid (OwnB (wo.setCell ⟨g, i, none⟩ (.int .u8 32)) base (some ⟨g, 0, none⟩) n c (cur.set i 32)) := hide (ho.out.set_ i 32)
                              have hgr2 : w.grownBy (wo.setCell ⟨g, i, none⟩ (.int .u8 32)) (some g) := grown_set hgr.out (p := ⟨g, i, none⟩) (.inl rfl) (.int .u8 32)
                              have Hm2 : markAt L i e = 32 := by rw [Hmk.out]; rfl
                              have hLn := hL.out
                              subst hj
                              have j0 : (((0 : Nat) : Int) == 0) = true := rfl
                              have hf : SqIn L (cur.set i 32) (i + 1) e e := by have := Hi.out.first Hr.out h2; rw [Hm2] at this; exact this
                              have Hf := hide hf
                              clear hf Hm2
                              obtain ⟨hy, hy38, h9⟩ := hte.out.byte
                              have cell2 := HcellN.out y hy
                              have Hyw := hide (Hs.out y hy)
                              have hen : ((e : Nat) : Int) < (n : Int) := by omega
                              have hE3 : ¬ ((e : Nat) : Int) + 3 < (n : Int) := by omega
                              have Hmn : Hid (Todo nt L (min (e + 1) n) re due) := hide (by rw [show min (e + 1) n = e + 1 by omega]; exact h9)
                              have hre2 : re.length ≤ rest.length := by simp at hre; omega
                              have Hf2 : Hid (SqIn L _ _ _ (min (e + 1) n)) := hide (by have := Hf.out.step Hs.out; rw [hLn] at this; exact this)
                              clear hy hy38 h9 hLn
                              go_wp2_with (go_at_call 21; (with_reducible refine (isWs_n _ false _ Hyw.out (Ht.out _ hgr.out)).mono ?_); rintro e' w' ⟨rfl, rfl⟩)
                              go_roundg rest.length
                              case rel => exact ⟨n, _, _, e + 1, L, _, _, by assumption, rfl, by go_num, rfl, by go_num, by omega, hnb, hL, Hf2, Hmn, Hst, hide hgr2⟩
                              case measure => omega
                          · focus
                              have Hst : Hid (OwnB (wo.setCell ⟨g, i, none⟩ (.int .u8 32)) base (some ⟨g, 0, none⟩) n c (cur.set i 32)) := hide (ho.out.set_ i 32)
                              have hgr2 : w.grownBy (wo.setCell ⟨g, i, none⟩ (.int .u8 32)) (some g) := grown_set hgr.out (p := ⟨g, i, none⟩) (.inl rfl) (.int .u8 32)
                              have Hm2 : markAt L i e = 32 := by rw [Hmk.out]; rfl
                              have hLn := hL.out
                              have j0 : ((j : Int) == 0) = false := by rw [beq_eq_false_iff_ne]; omega
                              have hjk2 : 0 < j ∧ j < k := by have := Hbd.out; omega
                              have hf : SqIn L (moved (cur.set i 32) j k (i + 1)) (j + (i + 1 - k)) e e := by have := Hi.out.more (by omega) Hr.out h2; rw [Hm2] at this; exact this
                              obtain ⟨r, hr⟩ : ∃ r, r = i + 1 - k := ⟨_, rfl⟩
                              have hr2 : j + r ≤ n := by omega
                              obtain ⟨w2, hrun2, hb2, hg2⟩ := OwnB.move (Hst.out.drew) j k (i + 1) hjk2.2 (by omega) (by omega) (n - j) (c - j) (i + 1 - k) (c - k) r (by omega) rfl hr
                              have Hrun2 := hide hrun2
                              have Hb2 := hide hb2
                              have hgr3 : w.grownBy w2 (some g) := World.grownBy.trans (b := (wo.setCell ⟨g, i, none⟩ (.int .u8 32)).drew) ⟨hgr2.os, hgr2.tape, hgr2.output, hgr2.size, hgr2.block⟩ hg2
                              have s1 : IntKind.i64.wrap ((i : Int) + 1) = (i : Int) + 1 := IntWalk.i64_in _ (by omega)
                              have s2 : IntKind.i64.wrap ((j : Int) + (r : Int)) = (j : Int) + (r : Int) := IntWalk.i64_in _ (by omega)
                              have S := hide (And.intro s1 s2)
                              have Hr2 := hide hr
                              clear s1 s2 hrun2 hb2 hg2 hr
                              have Hf := hide hf
                              clear hf Hm2
                              obtain ⟨hy, hy38, h9⟩ := hte.out.byte
                              have cell2 := HcellN.out y hy
                              have Hyw := hide (Hs.out y hy)
                              have hen : ((e : Nat) : Int) < (n : Int) := by omega
                              have hE3 : ¬ ((e : Nat) : Int) + 3 < (n : Int) := by omega
                              have Hmn : Hid (Todo nt L (min (e + 1) n) re due) := hide (by rw [show min (e + 1) n = e + 1 by omega]; exact h9)
                              have hre2 : re.length ≤ rest.length := by simp at hre; omega
                              have Hf2 : Hid (SqIn L _ _ _ (min (e + 1) n)) := hide (by have := Hf.out.step Hs.out; rw [hLn] at this; exact this)
                              clear hy hy38 h9 hLn
                              go_wp2_with (go_at_call 21; (with_reducible refine (isWs_n _ false _ Hyw.out (Ht.out _ hgr.out)).mono ?_); rintro e' w' ⟨rfl, rfl⟩)
                              obtain ⟨s1, s2⟩ := S.out
                              have t1 : 0 ≤ (i : Int) + 1 := by omega
                              have t3 : ((i : Int) + 1).toNat = i + 1 := by omega
                              have t4 : ¬ c = j := by omega
                              have t5 : ¬ c = k := by omega
                              have t6 : j ≤ n := by omega
                              have t7 : k ≤ i + 1 := by omega
                              have t8 : (i : Int) + 1 ≤ (c : Int) := by omega
                              have t9 : (k : Int) ≤ (i : Int) + 1 := by omega
                              clear S
                              go_region_law ((with_reducible refine step_copy_runG Hrun2.out _ _ ?_ rfl rfl ?_ ?_ ?_); (rfl); (simp [Act.eval, Act.put]); (simp [Act.eval, Act.put]))
                              all_goals
                                clear s1 s2 t1 t3 t4 t5 t6 t7 t8 t9
                                go_wp2
                                go_roundg rest.length
                                case rel => exact ⟨n, _, _, e + 1, L, _, _, by assumption, rfl, by have := Hr2.out; go_num, rfl, by go_num, by omega, hnb, hL, Hf2, Hmn, Hb2, hide hgr3⟩
                                case measure => omega
                        · focus
                            have Hst : Hid (OwnB (wo.setCell ⟨g, i, none⟩ (.int .u8 32)) base (some ⟨g, 0, none⟩) n c (cur.set i 32)) := hide (ho.out.set_ i 32)
                            have hgr2 : w.grownBy (wo.setCell ⟨g, i, none⟩ (.int .u8 32)) (some g) := grown_set hgr.out (p := ⟨g, i, none⟩) (.inl rfl) (.int .u8 32)
                            have Hm2 : markAt L i e = 32 := by rw [Hmk.out]; rfl
                            have hLn := hL.out
                            obtain rfl : e = i + 1 := by omega
                            have hf : SqIn L (cur.set i 32) j k (i + 1) := by have := Hi.out.blank Hr.out; rw [Hm2] at this; exact this
                            have Hf := hide hf
                            clear hf Hm2
                            obtain ⟨hy, hy38, h9⟩ := hte.out.byte
                            have cell2 := HcellN.out y hy
                            have Hyw := hide (Hs.out y hy)
                            have hen : (((i + 1) : Nat) : Int) < (n : Int) := by omega
                            have hE3 : ¬ (((i + 1) : Nat) : Int) + 3 < (n : Int) := by omega
                            have hE3b : ¬ (i : Int) + 1 + 3 < (n : Int) := by omega
                            have henb : (i : Int) + 1 < (n : Int) := by omega
                            have Hmn : Hid (Todo nt L (min ((i + 1) + 1) n) re due) := hide (by rw [show min ((i + 1) + 1) n = (i + 1) + 1 by omega]; exact h9)
                            have hre2 : re.length ≤ rest.length := by simp at hre; omega
                            have Hf2 : Hid (SqIn L _ _ _ (min ((i + 1) + 1) n)) := hide (by have := Hf.out.step Hs.out; rw [hLn] at this; exact this)
                            clear hy hy38 h9 hLn
                            go_wp2_with (go_at_call 21; (with_reducible refine (isWs_n _ false _ Hyw.out (Ht.out _ hgr.out)).mono ?_); rintro e' w' ⟨rfl, rfl⟩)
                            go_roundg rest.length
                            case rel => exact ⟨n, _, _, (i + 1) + 1, L, _, _, by assumption, rfl, rfl, rfl, by go_num, by omega, hnb, hL, Hf2, Hmn, Hst, hide hgr2⟩
                            case measure => omega
                      · by_cases h2 : i + 1 < e
                        · by_cases hj : j = 0
                          · focus
                              have Hst : Hid (OwnB (wo.setCell ⟨g, i, none⟩ (.int .u8 10)) base (some ⟨g, 0, none⟩) n c (cur.set i 10)) := hide (ho.out.set_ i 10)
                              have hgr2 : w.grownBy (wo.setCell ⟨g, i, none⟩ (.int .u8 10)) (some g) := grown_set hgr.out (p := ⟨g, i, none⟩) (.inl rfl) (.int .u8 10)
                              have Hm2 : markAt L i e = 10 := by rw [Hmk.out]; rfl
                              have hLn := hL.out
                              subst hj
                              have j0 : (((0 : Nat) : Int) == 0) = true := rfl
                              have hf : SqIn L (cur.set i 10) (i + 1) e e := by have := Hi.out.first Hr.out h2; rw [Hm2] at this; exact this
                              have Hf := hide hf
                              clear hf Hm2
                              obtain ⟨hy, hy38, h9⟩ := hte.out.byte
                              have cell2 := HcellN.out y hy
                              have Hyw := hide (Hs.out y hy)
                              have hen : ((e : Nat) : Int) < (n : Int) := by omega
                              have hE3 : ¬ ((e : Nat) : Int) + 3 < (n : Int) := by omega
                              have Hmn : Hid (Todo nt L (min (e + 1) n) re due) := hide (by rw [show min (e + 1) n = e + 1 by omega]; exact h9)
                              have hre2 : re.length ≤ rest.length := by simp at hre; omega
                              have Hf2 : Hid (SqIn L _ _ _ (min (e + 1) n)) := hide (by have := Hf.out.step Hs.out; rw [hLn] at this; exact this)
                              clear hy hy38 h9 hLn
                              go_wp2_with (go_at_call 21; (with_reducible refine (isWs_n _ false _ Hyw.out (Ht.out _ hgr.out)).mono ?_); rintro e' w' ⟨rfl, rfl⟩)
                              go_roundg rest.length
                              case rel => exact ⟨n, _, _, e + 1, L, _, _, by assumption, rfl, by go_num, rfl, by go_num, by omega, hnb, hL, Hf2, Hmn, Hst, hide hgr2⟩
                              case measure => omega
                          · focus
                              have Hst : Hid (OwnB (wo.setCell ⟨g, i, none⟩ (.int .u8 10)) base (some ⟨g, 0, none⟩) n c (cur.set i 10)) := hide (ho.out.set_ i 10)
                              have hgr2 : w.grownBy (wo.setCell ⟨g, i, none⟩ (.int .u8 10)) (some g) := grown_set hgr.out (p := ⟨g, i, none⟩) (.inl rfl) (.int .u8 10)
                              have Hm2 : markAt L i e = 10 := by rw [Hmk.out]; rfl
                              have hLn := hL.out
                              have j0 : ((j : Int) == 0) = false := by rw [beq_eq_false_iff_ne]; omega
                              have hjk2 : 0 < j ∧ j < k := by have := Hbd.out; omega
                              have hf : SqIn L (moved (cur.set i 10) j k (i + 1)) (j + (i + 1 - k)) e e := by have := Hi.out.more (by omega) Hr.out h2; rw [Hm2] at this; exact this
                              obtain ⟨r, hr⟩ : ∃ r, r = i + 1 - k := ⟨_, rfl⟩
                              have hr2 : j + r ≤ n := by omega
                              obtain ⟨w2, hrun2, hb2, hg2⟩ := OwnB.move (Hst.out.drew) j k (i + 1) hjk2.2 (by omega) (by omega) (n - j) (c - j) (i + 1 - k) (c - k) r (by omega) rfl hr
                              have Hrun2 := hide hrun2
                              have Hb2 := hide hb2
                              have hgr3 : w.grownBy w2 (some g) := World.grownBy.trans (b := (wo.setCell ⟨g, i, none⟩ (.int .u8 10)).drew) ⟨hgr2.os, hgr2.tape, hgr2.output, hgr2.size, hgr2.block⟩ hg2
                              have s1 : IntKind.i64.wrap ((i : Int) + 1) = (i : Int) + 1 := IntWalk.i64_in _ (by omega)
                              have s2 : IntKind.i64.wrap ((j : Int) + (r : Int)) = (j : Int) + (r : Int) := IntWalk.i64_in _ (by omega)
                              have S := hide (And.intro s1 s2)
                              have Hr2 := hide hr
                              clear s1 s2 hrun2 hb2 hg2 hr
                              have Hf := hide hf
                              clear hf Hm2
                              obtain ⟨hy, hy38, h9⟩ := hte.out.byte
                              have cell2 := HcellN.out y hy
                              have Hyw := hide (Hs.out y hy)
                              have hen : ((e : Nat) : Int) < (n : Int) := by omega
                              have hE3 : ¬ ((e : Nat) : Int) + 3 < (n : Int) := by omega
                              have Hmn : Hid (Todo nt L (min (e + 1) n) re due) := hide (by rw [show min (e + 1) n = e + 1 by omega]; exact h9)
                              have hre2 : re.length ≤ rest.length := by simp at hre; omega
                              have Hf2 : Hid (SqIn L _ _ _ (min (e + 1) n)) := hide (by have := Hf.out.step Hs.out; rw [hLn] at this; exact this)
                              clear hy hy38 h9 hLn
                              go_wp2_with (go_at_call 21; (with_reducible refine (isWs_n _ false _ Hyw.out (Ht.out _ hgr.out)).mono ?_); rintro e' w' ⟨rfl, rfl⟩)
                              obtain ⟨s1, s2⟩ := S.out
                              have t1 : 0 ≤ (i : Int) + 1 := by omega
                              have t3 : ((i : Int) + 1).toNat = i + 1 := by omega
                              have t4 : ¬ c = j := by omega
                              have t5 : ¬ c = k := by omega
                              have t6 : j ≤ n := by omega
                              have t7 : k ≤ i + 1 := by omega
                              have t8 : (i : Int) + 1 ≤ (c : Int) := by omega
                              have t9 : (k : Int) ≤ (i : Int) + 1 := by omega
                              clear S
                              go_region_law ((with_reducible refine step_copy_runG Hrun2.out _ _ ?_ rfl rfl ?_ ?_ ?_); (rfl); (simp [Act.eval, Act.put]); (simp [Act.eval, Act.put]))
                              all_goals
                                clear s1 s2 t1 t3 t4 t5 t6 t7 t8 t9
                                go_wp2
                                go_roundg rest.length
                                case rel => exact ⟨n, _, _, e + 1, L, _, _, by assumption, rfl, by have := Hr2.out; go_num, rfl, by go_num, by omega, hnb, hL, Hf2, Hmn, Hb2, hide hgr3⟩
                                case measure => omega
                        · focus
                            have Hst : Hid (OwnB (wo.setCell ⟨g, i, none⟩ (.int .u8 10)) base (some ⟨g, 0, none⟩) n c (cur.set i 10)) := hide (ho.out.set_ i 10)
                            have hgr2 : w.grownBy (wo.setCell ⟨g, i, none⟩ (.int .u8 10)) (some g) := grown_set hgr.out (p := ⟨g, i, none⟩) (.inl rfl) (.int .u8 10)
                            have Hm2 : markAt L i e = 10 := by rw [Hmk.out]; rfl
                            have hLn := hL.out
                            obtain rfl : e = i + 1 := by omega
                            have hf : SqIn L (cur.set i 10) j k (i + 1) := by have := Hi.out.blank Hr.out; rw [Hm2] at this; exact this
                            have Hf := hide hf
                            clear hf Hm2
                            obtain ⟨hy, hy38, h9⟩ := hte.out.byte
                            have cell2 := HcellN.out y hy
                            have Hyw := hide (Hs.out y hy)
                            have hen : (((i + 1) : Nat) : Int) < (n : Int) := by omega
                            have hE3 : ¬ (((i + 1) : Nat) : Int) + 3 < (n : Int) := by omega
                            have hE3b : ¬ (i : Int) + 1 + 3 < (n : Int) := by omega
                            have henb : (i : Int) + 1 < (n : Int) := by omega
                            have Hmn : Hid (Todo nt L (min ((i + 1) + 1) n) re due) := hide (by rw [show min ((i + 1) + 1) n = (i + 1) + 1 by omega]; exact h9)
                            have hre2 : re.length ≤ rest.length := by simp at hre; omega
                            have Hf2 : Hid (SqIn L _ _ _ (min ((i + 1) + 1) n)) := hide (by have := Hf.out.step Hs.out; rw [hLn] at this; exact this)
                            clear hy hy38 h9 hLn
                            go_wp2_with (go_at_call 21; (with_reducible refine (isWs_n _ false _ Hyw.out (Ht.out _ hgr.out)).mono ?_); rintro e' w' ⟨rfl, rfl⟩)
                            go_roundg rest.length
                            case rel => exact ⟨n, _, _, (i + 1) + 1, L, _, _, by assumption, rfl, rfl, rfl, by go_num, by omega, hnb, hL, Hf2, Hmn, Hst, hide hgr2⟩
                            case measure => omega
    · have hmin : min i n = n := Nat.min_eq_right (by omega)
      rw [hmin] at hin htd
      have hd : L = due := by
        cases rest with
        | nil => exact htd.out.done.2
        | cons it rest =>
          exfalso
          have hL2 := hL.out
          cases it with
          | byte x => have := (List.getElem?_eq_some_iff.1 htd.out.byte.1).1; omega
          | ent f t =>
            obtain ⟨_, he, _, hle⟩ := htd.out.ent
            have := (he.facts HN.out).1
            omega
      subst hd
      have hL2 := hL.out
      subst hL2
      have hbd := hin.out.2.2.2.2
      have Hi := hin
      have Hcl := hide hin.out.1
      clear hin htd
      by_cases hj0 : j = 0
      · focus
          have j0 : ((j : Int) == 0) = true := by rw [beq_iff_eq]; omega
          have he := Hi.out.end0 hj0
          subst he
          clear hbd hj0
          go_wp2
          go_ret
          exact ⟨_, some ⟨g, 0, none⟩, c, rfl, ho.out.bs, ho.out.len, hgr.out⟩
      have j0 : ((j : Int) == 0) = false := by rw [beq_eq_false_iff_ne]; omega
      have hjk2 : 0 < j ∧ j < k ∧ k ≤ L.length := by omega
      clear hbd
      by_cases hj1 : j = 1
      · focus
          have j1 : ((j : Int) == 1) = true := by rw [beq_iff_eq]; omega
          obtain ⟨x, hx⟩ : ∃ x, cur[0]? = some x := ⟨_, List.getElem?_eq_getElem (by have := Hcl.out; omega)⟩
          have cell0 := ho.out.cellI hx
          have hst := ho.out.set_ (k - 1) x
          have Hf := hide (Hi.out.end1 hj1 hx)
          have hgr2 := grown_set hgr.out (p := ⟨g, k - 1, none⟩) (.inl rfl) (.int .u8 (x.toNat : Int))
          have hx256 := x.toNat_lt
          have frz := ho.out.frz (k - 1)
          obtain ⟨y, hy⟩ : ∃ y, cur[k - 1]? = some y := ⟨_, List.getElem?_eq_getElem (by have := Hcl.out; omega)⟩
          have cellK := ho.out.cellI hy
          clear hy
          have Hl := hide (show ((cur.set (k - 1) x).drop (k - 1)).length = L.length - (k - 1) by have := Hcl.out; simp; omega)
          obtain ⟨A', runL, srcL, _⟩ := run_lo8 (P := Tryd.prog) 26 Tryd.underlying26 (by kernel_rfl) hst.bs L.length c (k - 1) ((k : Int) - 1) (by omega) (by have := Hcl.out; simpa using this) (by omega) hnc
          have HrunL := hide runL
          have HsrcL := hide srcL
          have s1 : IntKind.i64.wrap ((k : Int) - 1) = (k : Int) - 1 := IntWalk.i64_in _ (by omega)
          clear runL srcL hx hst
          go_wp2_with ((with_reducible refine wpList_slice_runO (HrunL.out .i64 _) _ _ _ ?_ rfl ?_ ?_ ?_ ?_); (rfl); (rfl); (rfl); (rfl))
          go_ret
          exact ⟨_, A', _, rfl, by rw [← Hf.out]; exact HsrcL.out, by rw [← Hf.out]; exact Hl.out, hgr2⟩
      have j1 : ((j : Int) == 1) = false := by rw [beq_eq_false_iff_ne]; omega
      by_cases hk : k < L.length
      · focus
          have Hf := hide Hi.out.endM
          have Hl := hide (moved_take_len (cur := cur) (j := j) (k := k) (q := L.length) hjk2.2.2 (by have := Hcl.out; omega) (by have := Hcl.out; omega))
          obtain ⟨r, hr⟩ : ∃ r, r = L.length - k := ⟨_, rfl⟩
          have hr2 : j + r ≤ L.length := by omega
          obtain ⟨w2, hrun2, hb2, hg2⟩ := OwnB.move (ho.out.drew) j k L.length hjk2.2.1 hjk2.2.2 (Nat.le_refl _) (L.length - j) (c - j) (L.length - k) (c - k) r (by omega) rfl hr
          have Hrun2 := hide hrun2
          have Hbs := hide (hb2.bs.take (j + (L.length - k)))
          have hgr3 : w.grownBy w2 (some g) := World.grownBy.trans (b := wr.drew) ⟨hgr.out.os, hgr.out.tape, hgr.out.output, hgr.out.size, hgr.out.block⟩ hg2
          have s2 : IntKind.i64.wrap ((j : Int) + (r : Int)) = (j : Int) + (r : Int) := IntWalk.i64_in _ (by omega)
          have S := hide s2
          have HrunH := hide (run_hi8 (P := Tryd.prog) (A := some ⟨g, 0, none⟩) 26 Tryd.underlying26 (by kernel_rfl) L.length c (j + (L.length - k)) ((j : Int) + (r : Int)) (by omega) (by omega) .i64)
          clear s2 hrun2 hb2 hg2 hr
          go_wp2
          have s2 := S.out
          have t4 : ¬ c = j := by omega
          have t5 : ¬ c = k := by omega
          have t6 : j ≤ L.length := by omega
          have t7 : k ≤ L.length := by omega
          clear S
          go_region_law ((with_reducible refine step_copy_runG Hrun2.out _ _ ?_ rfl rfl ?_ ?_ ?_); (rfl); (simp [Act.eval, Act.put]); (simp [Act.eval, Act.put]))
          all_goals
            clear s2 t4 t5 t6 t7
            go_wp2_with ((with_reducible refine wpList_slice_runO (HrunH.out _) _ _ _ ?_ rfl ?_ ?_ ?_ ?_); (rfl); (rfl); (rfl); (rfl))
            go_ret
            exact ⟨_, some ⟨g, 0, none⟩, c, rfl, by rw [← Hf.out]; exact Hbs.out, by rw [← Hf.out]; exact Hl.out, hgr3⟩
      · focus
          obtain rfl : k = L.length := by omega
          have Hf := hide (Hi.out.endK rfl)
          have Hl := hide (show (cur.take j).length = j by have := Hcl.out; rw [List.length_take]; omega)
          have HrunH := hide (run_hi8 (P := Tryd.prog) (A := some ⟨g, 0, none⟩) 26 Tryd.underlying26 (by kernel_rfl) L.length c j (j : Int) rfl (by omega) .i64)
          have Hbs := hide (ho.out.bs.take j)
          go_wp2_with ((with_reducible refine wpList_slice_runO (HrunH.out _) _ _ _ ?_ rfl ?_ ?_ ?_ ?_); (rfl); (rfl); (rfl); (rfl))
          go_ret
          exact ⟨_, some ⟨g, 0, none⟩, c, rfl, by rw [← Hf.out]; exact Hbs.out, by rw [← Hf.out]; exact Hl.out, hgr.out⟩
end Go.Proofs.YtnepjlfkbmindaaDoor
