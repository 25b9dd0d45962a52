/- How long a number at the beginning of a text is: what the package's function returns. Conditions: the text is shorter than 2^31. -/
import Derived.Test.YtdldnnppijfooaaNumT
import Derived.Deep.Cut
import Derived.Deep.CutRange
import Derived.Deep.CutBlock
import Derived.Deep.DeepCutAuto
namespace Go.Proofs.Ytdldnnppijfooaa
open Go.RowKit
set_option linter.unusedVariables false

theorem eq_beq (d d' : UInt8) : ((d.toNat : Int) == (d'.toNat : Int)) = (d == d') := by
  rw [u8_beq, Bool.eq_iff_iff]
  simp only [beq_iff_eq, decide_eq_true_eq]
  omega
theorem at_no {p : UInt8 → Bool} {l : List UInt8} {k : Nat} (h : ¬ k < l.length) : at_ p l k = false := at_none (by omega)
theorem sgn_bool {l : List UInt8} {k : Nat} {d : UInt8} (hd : l[k]? = some d) : at_ isSgn l k = (((d.toNat : Int) == 43) || ((d.toNat : Int) == 45)) := by
  rw [at_some hd]
  exact (congr (congrArg or (eq_beq d 43)) (eq_beq d 45)).symm
theorem exp_bool {l : List UInt8} {k : Nat} {d : UInt8} (hd : l[k]? = some d) : at_ isExp l k = (((d.toNat : Int) == 101) || ((d.toNat : Int) == 69)) := by
  rw [at_some hd]
  exact (congr (congrArg or (eq_beq d 101)) (eq_beq d 69)).symm
theorem dot_bool {l : List UInt8} {k : Nat} {d : UInt8} (hd : l[k]? = some d) : at_ (· == 46) l k = ((d.toNat : Int) == 46) := by
  rw [at_some hd]
  exact (eq_beq d 46).symm
theorem dot_some {l : List UInt8} {k : Nat} (h : at_ (· == 46) l k = true) : l[k]? = some 46 := by
  unfold at_ at h
  split at h
  · rename_i c hc
    rw [hc, beq_iff_eq.1 (show (c == 46) = true from h)]
  · cases h
theorem dot_none {l : List UInt8} {k : Nat} (h : at_ (· == 46) l k = false) : ∀ c, l[k]? = some c → c.toNat ≠ 46 := fun c hc e => by
  rw [at_some hc] at h
  rw [UInt8.toNat_inj.1 (show c.toNat = (46 : UInt8).toNat from e)] at h
  cases h
theorem exp_dot {l : List UInt8} {k : Nat} (h : at_ (· == 46) l k = true) : expo l k = 0 := expo_not (fun c hc => by
  rw [dot_some h] at hc
  cases hc
  decide)
theorem expo_not' {l : List UInt8} {i : Nat} (h : at_ isExp l i = false) : expo l i = 0 := by
  unfold expo
  rw [if_neg]
  rw [h]
  rintro ⟨h1, _⟩
  cases h1

set_option maxRecDepth 100000 in
set_option maxHeartbeats 8000000 in
theorem numI_some (b o : Nat) (l : List UInt8) (c : Nat) (w : World) (h : BS w (some ⟨b, o, none⟩) l) (h1 : l.length ≤ 2147483647) (h0 : 0 < l.length) :
    Calls Try.prog 22 #[.slice (some ⟨b, o, none⟩) l.length c] w fun e w' => e = .returned (.int .i64 (numLen l : Int)) ∧ w = w' := by
  have hcell : ∀ {k : Nat} {d : UInt8}, l[k]? = some d → w.cell? ⟨b, o + k, none⟩ = some (.int .u8 (d.toNat : Int)) := fun {k d} hd => by
    obtain ⟨b1, o1, e, cell1⟩ := h.at_ hd
    simp only [Option.some.injEq, Addr.mk.injEq, and_true] at e
    obtain ⟨rfl, rfl⟩ := e
    exact cell1
  have Hcell := @hide _ @hcell
  clear hcell h
  have hne : ((l.length : Int) == 0) = false := by rw [beq_eq_false_iff_ne]; omega
  go_enter Try.func22, Try.ntmps22
  go_upto_region 4 with fail
  clear hne
  go_cut [20] (fun t wx => ∃ sg : Bool, t = .bool sg ∧ Hid (at_ isSgn l 0 = sg) ∧ w = wx)
  case first =>
    as_aux_lemma =>
      obtain ⟨d, hd⟩ : ∃ x, l[0]? = some x := ⟨_, List.getElem?_eq_getElem h0⟩
      have cell1 := Hcell.out hd
      rw [Nat.add_zero] at cell1
      have Ea := hide (sgn_bool hd)
      clear hd
      go_wp2
      all_goals go_meet
      all_goals first
        | exact ⟨_, rfl, Ea.out, rfl⟩
        | exact ⟨_, rfl, (by show at_ isSgn l 0 = _; rw [Ea.out]; simp only [Bool.or_eq_true, beq_iff_eq]; omega), rfl⟩
  case rest =>
    obtain ⟨sg, rfl, hsg, rfl⟩ := hcut
    go_upto_if 20 with fail
    go_cut [3] (fun t wx => ∃ S : Nat, t = .int .i64 S ∧ Hid (sgn l 0 = S) ∧ S ≤ 1 ∧ S < l.length ∧ w = wx)
    case first =>
      as_aux_lemma =>
        cases sg with
        | true =>
          have hS : sgn l 0 = 1 := by unfold sgn; rw [if_pos hsg.out]
          have HS := hide hS
          clear hS hsg
          by_cases hl2 : 1 < l.length
          · go_wp2
            go_meet
            exact ⟨1, rfl, HS, by omega, hl2, rfl⟩
          · have hN : numLen l = 0 := numLen0 (by rw [HS.out]; have := mant_le l 1 (by omega); omega)
            have HN := hide hN
            clear hN
            go_wp2
            go_ret
            exact ⟨ret_int (by rw [HN.out]; rfl), rfl⟩
        | false =>
          have hS : sgn l 0 = 0 := by unfold sgn; rw [if_neg (by rw [hsg.out]; simp)]
          have HS := hide hS
          clear hS hsg
          go_wp2
          go_meet
          exact ⟨0, rfl, HS, by omega, h0, rfl⟩
    case rest =>
      obtain ⟨S, rfl, HS, hS1, hSl, rfl⟩ := hcut
      clear hsg
      go_upto_region 8 with fail
      go_cut [4] (fun t wx => ∃ fd : Bool, t = .bool fd ∧ Hid (at_ isDig l S = fd) ∧ w = wx)
      case first =>
        as_aux_lemma =>
          obtain ⟨d, hd⟩ : ∃ x, l[S]? = some x := ⟨_, List.getElem?_eq_getElem hSl⟩
          have cell1 := Hcell.out hd
          cases hb : isDig d with
          | true =>
            have Ha := hide (show at_ isDig l S = true by rw [at_some hd]; exact hb)
            obtain ⟨hb1, hb2⟩ := dig_bd hb
            clear hb hd
            go_wp2
            go_meet
            exact ⟨true, congrArg Value.bool (by simp; omega), Ha, rfl⟩
          | false =>
            have Ha := hide (show at_ isDig l S = false by rw [at_some hd]; exact hb)
            have hnd := dig_not hb
            clear hb hd
            by_cases hb1 : 48 ≤ d.toNat
            · have hb2 : ¬ d.toNat ≤ 57 := fun x => hnd ⟨hb1, x⟩
              clear hnd
              go_wp2
              go_meet
              exact ⟨false, congrArg Value.bool (by simp; omega), Ha, rfl⟩
            · clear hnd
              go_wp2
              go_meet
              exact ⟨false, rfl, Ha, rfl⟩
      case rest =>
        obtain ⟨fd, rfl, hfd, rfl⟩ := hcut
        go_upto_if 39 with fail
        go_cut [3] (fun t wx => ∃ D : Nat, t = .int .i64 ((S + D : Nat) : Int) ∧ Hid (dg l S = D) ∧ Hid (fd = decide (0 < D)) ∧ w = wx)
        case first =>
          as_aux_lemma =>
            cases fd with
            | true =>
              have hD := hide (run_yes hfd.out)
              clear hfd
              go_wp2
              go_loop [3] (fun i => ∃ n : Nat, S + 1 + n ≤ l.length ∧ i = .int .i64 ((S + 1 + n : Nat) : Int) ∧ Hid (dg l (S + 1) = n + dg l (S + 1 + n))) (fun i => l.length - (intOf i).toNat)
              case atStart => exact ⟨0, by omega, by go_num, hide (by simp)⟩
              case round =>
                obtain ⟨n, hn, rfl, hrun⟩ := hrel
                by_cases hlt : S + 1 + n < l.length
                · obtain ⟨d, hd⟩ : ∃ x, l[S + 1 + n]? = some x := ⟨_, List.getElem?_eq_getElem hlt⟩
                  have cell1 := Hcell.out hd
                  cases hb : isDig d with
                  | true =>
                    have Hr := hide (show dg l (S + 1) = (n + 1) + dg l (S + 1 + (n + 1)) by rw [hrun.out, dg_yes hd hb, show S + 1 + n + 1 = S + 1 + (n + 1) by omega]; omega)
                    obtain ⟨hb1, hb2⟩ := dig_bd hb
                    clear hb hd hrun
                    go_wp2
                    go_round
                    case rel => exact ⟨n + 1, by omega, by go_num, Hr⟩
                    case measure => simp [intOf]; omega
                  | false =>
                    have Hr := hide (show dg l (S + 1) = n by rw [hrun.out, dg_no (fun c hc => by rw [hd] at hc; cases hc; exact hb)]; omega)
                    have hnd := dig_not hb
                    clear hb hd hrun
                    by_cases hb1 : 48 ≤ d.toNat
                    · have hb2 : ¬ d.toNat ≤ 57 := fun x => hnd ⟨hb1, x⟩
                      clear hnd
                      go_wp2
                      go_meet
                      exact ⟨1 + n, by go_num, hide (show run isDig l S = 1 + n by have h1 := hD.out; have h2 := Hr.out; unfold dg at h2; omega), hide (by simp; omega), rfl⟩
                    · clear hnd
                      go_wp2
                      go_meet
                      exact ⟨1 + n, by go_num, hide (show run isDig l S = 1 + n by have h1 := hD.out; have h2 := Hr.out; unfold dg at h2; omega), hide (by simp; omega), rfl⟩
                · have Hr := hide (show dg l (S + 1) = n by rw [hrun.out, dg_no (fun c hc => by rw [none_of hlt] at hc; cases hc)]; omega)
                  clear hrun
                  go_wp2
                  go_meet
                  exact ⟨1 + n, by go_num, hide (show run isDig l S = 1 + n by have h1 := hD.out; have h2 := Hr.out; unfold dg at h2; omega), hide (by simp; omega), rfl⟩
            | false =>
              have hD := hide (run_no hfd.out)
              clear hfd
              go_wp2
              go_meet
              exact ⟨0, rfl, hD, hide rfl, rfl⟩
        case rest =>
          obtain ⟨D, rfl, HD, hfd2, rfl⟩ := hcut
          have hDl : S + D ≤ l.length := by rw [← HD.out]; exact run_le (by omega)
          clear hfd
          go_upto_region 13 with fail
          go_cut [72] (fun t wx => ∃ dot : Bool, t = .bool dot ∧ Hid (at_ (· == 46) l (S + D) = dot) ∧ w = wx)
          case first =>
            as_aux_lemma =>
              by_cases hpl : S + D < l.length
              · obtain ⟨d, hd⟩ : ∃ x, l[S + D]? = some x := ⟨_, List.getElem?_eq_getElem hpl⟩
                have cell1 := Hcell.out hd
                have Ea := hide (dot_bool hd)
                clear hd
                go_wp2
                all_goals go_meet
                all_goals first
                  | exact ⟨_, rfl, Ea.out, rfl⟩
                  | exact ⟨_, rfl, (by show at_ _ l _ = _; rw [Ea.out]; simp only [beq_iff_eq]; omega), rfl⟩
              · go_wp2
                go_meet
                exact ⟨_, rfl, at_no hpl, rfl⟩
          case rest =>
            obtain ⟨dot, rfl, hdot, rfl⟩ := hcut
            go_upto_if 72 with fail
            go_cut [3] (fun t wx => ∃ M : Nat, t = .int .i64 ((S + M : Nat) : Int) ∧ Hid (mant l S = M) ∧ 0 < M ∧ S + M ≤ l.length ∧ w = wx)
            case first =>
              as_aux_lemma =>
                cases dot with
                | true =>
                  have hds := dot_some hdot.out
                  obtain ⟨hpl, _⟩ := List.getElem?_eq_some_iff.1 hds
                  have Hds := hide hds
                  clear hds
                  cases hb : at_ isDig l (S + D + 1) with
                  | true =>
                    have hE := hide (run_yes hb)
                    have hpl2 := at_lt hb
                    obtain ⟨d, hd⟩ : ∃ x, l[S + D + 1]? = some x := ⟨_, List.getElem?_eq_getElem hpl2⟩
                    have cell1 := Hcell.out hd
                    rw [at_some hd] at hb
                    obtain ⟨hb1, hb2⟩ := dig_bd hb
                    clear hb hd
                    go_wp2
                    clear cell1
                    go_loop [3] (fun i => ∃ n : Nat, S + D + 1 + 1 + n ≤ l.length ∧ i = .int .i64 ((S + D + 1 + 1 + n : Nat) : Int) ∧ Hid (dg l (S + D + 1 + 1) = n + dg l (S + D + 1 + 1 + n))) (fun i => l.length - (intOf i).toNat)
                    case atStart => exact ⟨0, by omega, by go_num, hide (by simp)⟩
                    case round =>
                      obtain ⟨n, hn, rfl, hrun⟩ := hrel
                      by_cases hlt : S + D + 1 + 1 + n < l.length
                      · obtain ⟨d, hd⟩ : ∃ x, l[S + D + 1 + 1 + n]? = some x := ⟨_, List.getElem?_eq_getElem hlt⟩
                        have cell1 := Hcell.out hd
                        cases hb : isDig d with
                        | true =>
                          have Hr := hide (show dg l (S + D + 1 + 1) = (n + 1) + dg l (S + D + 1 + 1 + (n + 1)) by rw [hrun.out, dg_yes hd hb, show S + D + 1 + 1 + n + 1 = S + D + 1 + 1 + (n + 1) by omega]; omega)
                          obtain ⟨hb1, hb2⟩ := dig_bd hb
                          clear hb hd hrun
                          go_wp2
                          go_round
                          case rel => exact ⟨n + 1, by omega, by go_num, Hr⟩
                          case measure => simp [intOf]; omega
                        | false =>
                          have Hr := hide (show dg l (S + D + 1 + 1) = n by rw [hrun.out, dg_no (fun c hc => by rw [hd] at hc; cases hc; exact hb)]; omega)
                          have hnd := dig_not hb
                          clear hb hd hrun
                          by_cases hb1 : 48 ≤ d.toNat
                          · have hb2 : ¬ d.toNat ≤ 57 := fun x => hnd ⟨hb1, x⟩
                            clear hnd
                            go_wp2
                            go_meet
                            exact ⟨D + 1 + (1 + n), by go_num, hide (show mant l S = D + 1 + (1 + n) by
                            have h1 := hE.out
                            have h2 := Hr.out
                            unfold dg at h2
                            have h3 : dg l (S + D + 1) = 1 + n := by unfold dg; omega
                            rw [mant_dot (k := S) (by rw [HD.out]; exact Hds.out) (by rw [HD.out, h3]; omega), HD.out, h3]), by omega, by omega, rfl⟩
                          · clear hnd
                            go_wp2
                            go_meet
                            exact ⟨D + 1 + (1 + n), by go_num, hide (show mant l S = D + 1 + (1 + n) by
                            have h1 := hE.out
                            have h2 := Hr.out
                            unfold dg at h2
                            have h3 : dg l (S + D + 1) = 1 + n := by unfold dg; omega
                            rw [mant_dot (k := S) (by rw [HD.out]; exact Hds.out) (by rw [HD.out, h3]; omega), HD.out, h3]), by omega, by omega, rfl⟩
                      · have Hr := hide (show dg l (S + D + 1 + 1) = n by rw [hrun.out, dg_no (fun c hc => by rw [none_of hlt] at hc; cases hc)]; omega)
                        clear hrun
                        go_wp2
                        go_meet
                        exact ⟨D + 1 + (1 + n), by go_num, hide (show mant l S = D + 1 + (1 + n) by
                            have h1 := hE.out
                            have h2 := Hr.out
                            unfold dg at h2
                            have h3 : dg l (S + D + 1) = 1 + n := by unfold dg; omega
                            rw [mant_dot (k := S) (by rw [HD.out]; exact Hds.out) (by rw [HD.out, h3]; omega), HD.out, h3]), by omega, by omega, rfl⟩
                  | false =>
                    have hM := hide (show mant l S = D by
                      rw [mant_dot0 (k := S) (by rw [HD.out]; exact run_no hb), HD.out])
                    have hnd : S + D + 1 < l.length → ∃ d, l[S + D + 1]? = some d ∧ ¬ (48 ≤ d.toNat ∧ d.toNat ≤ 57) := fun hpl2 => by
                      obtain ⟨d, hd⟩ : ∃ x, l[S + D + 1]? = some x := ⟨_, List.getElem?_eq_getElem hpl2⟩
                      rw [at_some hd] at hb
                      exact ⟨d, hd, dig_not hb⟩
                    clear hb
                    have hout : numLen l = if 0 < D then S + D else 0 := by
                      by_cases hD0 : 0 < D
                      · rw [if_pos hD0, numLen1 HS.out hM.out hD0, exp_dot hdot.out, Nat.add_zero]
                      · rw [if_neg hD0, numLen0 (by rw [HS.out, hM.out]; omega)]
                    have Hout := hide hout
                    clear hout
                    have hfd3 := hfd2.out
                    by_cases hD0 : 0 < D
                    · rw [decide_eq_true hD0] at hfd3
                      subst hfd3
                      have HN := hide (Hout.out.trans (if_pos hD0))
                      by_cases hpl2 : S + D + 1 < l.length
                      · obtain ⟨d, hd, hnd2⟩ := hnd hpl2
                        have cell1 := Hcell.out hd
                        clear hnd hd
                        by_cases hb1 : 48 ≤ d.toNat
                        · have hb2 : ¬ d.toNat ≤ 57 := fun x => hnd2 ⟨hb1, x⟩
                          clear hnd2
                          go_wp2
                          go_ret
                          exact ⟨ret_int (by rw [HN.out]; omega), rfl⟩
                        · clear hnd2
                          go_wp2
                          go_ret
                          exact ⟨ret_int (by rw [HN.out]; omega), rfl⟩
                      · clear hnd
                        go_wp2
                        go_ret
                        exact ⟨ret_int (by rw [HN.out]; omega), rfl⟩
                    · rw [decide_eq_false hD0] at hfd3
                      subst hfd3
                      have HN := hide (Hout.out.trans (if_neg hD0))
                      by_cases hpl2 : S + D + 1 < l.length
                      · obtain ⟨d, hd, hnd2⟩ := hnd hpl2
                        have cell1 := Hcell.out hd
                        clear hnd hd
                        by_cases hb1 : 48 ≤ d.toNat
                        · have hb2 : ¬ d.toNat ≤ 57 := fun x => hnd2 ⟨hb1, x⟩
                          clear hnd2
                          go_wp2
                          go_ret
                          exact ⟨ret_int (by rw [HN.out]; rfl), rfl⟩
                        · clear hnd2
                          go_wp2
                          go_ret
                          exact ⟨ret_int (by rw [HN.out]; rfl), rfl⟩
                      · clear hnd
                        go_wp2
                        go_ret
                        exact ⟨ret_int (by rw [HN.out]; rfl), rfl⟩
                | false =>
                  have hM := hide (show mant l S = D by rw [mant_no (k := S) (by rw [HD.out]; exact dot_none hdot.out), HD.out])
                  have hfd3 := hfd2.out
                  by_cases hD0 : 0 < D
                  · rw [decide_eq_true hD0] at hfd3
                    subst hfd3
                    go_wp2
                    go_meet
                    exact ⟨D, rfl, hM, hD0, hDl, rfl⟩
                  · rw [decide_eq_false hD0] at hfd3
                    subst hfd3
                    have HN := hide (show numLen l = 0 from numLen0 (by rw [HS.out, hM.out]; omega))
                    go_wp2
                    go_ret
                    exact ⟨ret_int (by rw [HN.out]; rfl), rfl⟩
            case rest =>
              obtain ⟨M, rfl, HM, hM0, hMl, rfl⟩ := hcut
              have HN := hide (numLen1 HS.out HM.out hM0)
              clear hdot hfd2 HD hDl
              go_upto_region 26 with fail
              go_cut [139] (fun t wx => ∃ ex : Bool, t = .bool ex ∧ Hid (at_ isExp l (S + M) = ex) ∧ w = wx)
              case first =>
                as_aux_lemma =>
                  by_cases hpl : S + M < l.length
                  · obtain ⟨d, hd⟩ : ∃ x, l[S + M]? = some x := ⟨_, List.getElem?_eq_getElem hpl⟩
                    have cell1 := Hcell.out hd
                    have Ea := hide (exp_bool hd)
                    clear hd
                    go_wp2
                    all_goals go_meet
                    all_goals first
                      | exact ⟨_, rfl, Ea.out, rfl⟩
                      | exact ⟨_, rfl, (by show at_ _ l _ = _; rw [Ea.out]; simp only [Bool.or_eq_true, beq_iff_eq]; omega), rfl⟩
                  · go_wp2
                    go_meet
                    exact ⟨_, rfl, at_no hpl, rfl⟩
              case rest =>
                obtain ⟨ex, rfl, hex, rfl⟩ := hcut
                cases ex with
                | false =>
                  have HN2 := hide (show numLen l = S + M by rw [HN.out, expo_not' hex.out, Nat.add_zero])
                  go_wp2
                  go_ret
                  exact ⟨ret_int (by rw [HN2.out]), rfl⟩
                | true =>
                  have hpl := at_lt hex.out
                  go_upto_region 28 with fail
                  go_cut [159] (fun t wx => ∃ sg : Bool, t = .bool sg ∧ Hid (at_ isSgn l (S + M + 1) = sg) ∧ w = wx)
                  case first =>
                    as_aux_lemma =>
                      by_cases hpl2 : S + M + 1 < l.length
                      · obtain ⟨d, hd⟩ : ∃ x, l[S + M + 1]? = some x := ⟨_, List.getElem?_eq_getElem hpl2⟩
                        have cell1 := Hcell.out hd
                        have Ea := hide (sgn_bool hd)
                        clear hd
                        go_wp2
                        all_goals go_meet
                        all_goals first
                          | exact ⟨_, rfl, Ea.out, rfl⟩
                          | exact ⟨_, rfl, (by show at_ _ l _ = _; rw [Ea.out]; simp only [Bool.or_eq_true, beq_iff_eq]; omega), rfl⟩
                      · go_wp2
                        go_meet
                        exact ⟨_, rfl, at_no hpl2, rfl⟩
                  case rest =>
                    obtain ⟨sg, rfl, hsg, rfl⟩ := hcut
                    go_upto_if 159 with fail
                    go_cut [3] (fun t wx => ∃ G : Nat, t = .int .i64 ((S + M + 1 + G : Nat) : Int) ∧ Hid (sgn l (S + M + 1) = G) ∧ S + M + 1 + G ≤ l.length ∧ w = wx)
                    case first =>
                      as_aux_lemma =>
                        cases sg with
                        | true =>
                          have hpl2 := at_lt hsg.out
                          have HG := hide (show sgn l (S + M + 1) = 1 by unfold sgn; rw [if_pos hsg.out])
                          clear hsg
                          go_wp2
                          go_meet
                          exact ⟨1, by go_num, HG, by omega, rfl⟩
                        | false =>
                          have HG := hide (show sgn l (S + M + 1) = 0 by unfold sgn; rw [if_neg (by rw [hsg.out]; simp)])
                          clear hsg
                          go_wp2
                          go_meet
                          exact ⟨0, by go_num, HG, by omega, rfl⟩
                    case rest =>
                      obtain ⟨G, rfl, HG, hGl, rfl⟩ := hcut
                      clear hsg
                      go_upto_region 30 with fail
                      go_cut [179] (fun t wx => ∃ nd : Bool, t = .bool (!nd) ∧ Hid (at_ isDig l (S + M + 1 + G) = nd) ∧ w = wx)
                      case first =>
                        as_aux_lemma =>
                          by_cases hpl2 : S + M + 1 + G < l.length
                          · obtain ⟨d, hd⟩ : ∃ x, l[S + M + 1 + G]? = some x := ⟨_, List.getElem?_eq_getElem hpl2⟩
                            have cell1 := Hcell.out hd
                            cases hb : isDig d with
                            | true =>
                              have Ha := hide (show at_ isDig l (S + M + 1 + G) = true by rw [at_some hd]; exact hb)
                              obtain ⟨hb1, hb2⟩ := dig_bd hb
                              clear hb hd
                              go_wp2
                              go_meet
                              exact ⟨true, congrArg Value.bool (by simp; omega), Ha, rfl⟩
                            | false =>
                              have Ha := hide (show at_ isDig l (S + M + 1 + G) = false by rw [at_some hd]; exact hb)
                              have hnd := dig_not hb
                              clear hb hd
                              by_cases hb1 : 48 ≤ d.toNat
                              · have hb2 : ¬ d.toNat ≤ 57 := fun x => hnd ⟨hb1, x⟩
                                clear hnd
                                go_wp2
                                go_meet
                                exact ⟨false, congrArg Value.bool (by simp; omega), Ha, rfl⟩
                              · clear hnd
                                go_wp2
                                go_meet
                                exact ⟨false, congrArg Value.bool (by simp), Ha, rfl⟩
                          · go_wp2
                            go_meet
                            exact ⟨false, congrArg Value.bool (by simp), at_no hpl2, rfl⟩
                      case rest =>
                        obtain ⟨nd, rfl, hnd0, rfl⟩ := hcut
                        cases nd with
                        | false =>
                          have HN2 := hide (show numLen l = S + M by rw [HN.out, expo_no HG.out (run_no hnd0.out), Nat.add_zero])
                          clear hnd0
                          go_wp2
                          go_ret
                          exact ⟨ret_int (by rw [HN2.out]), rfl⟩
                        | true =>
                          have hE := hide (run_yes hnd0.out)
                          clear hnd0
                          go_wp2
                          go_loop [3] (fun i => ∃ n : Nat, S + M + 1 + G + n ≤ l.length ∧ i = .int .i64 ((S + M + 1 + G + n : Nat) : Int) ∧ Hid (dg l (S + M + 1 + G) = n + dg l (S + M + 1 + G + n))) (fun i => l.length - (intOf i).toNat)
                          case atStart => exact ⟨0, by omega, by go_num, hide (by simp)⟩
                          case round =>
                            obtain ⟨n, hn, rfl, hrun⟩ := hrel
                            by_cases hlt : S + M + 1 + G + n < l.length
                            · obtain ⟨d, hd⟩ : ∃ x, l[S + M + 1 + G + n]? = some x := ⟨_, List.getElem?_eq_getElem hlt⟩
                              have cell1 := Hcell.out hd
                              cases hb : isDig d with
                              | true =>
                                have Hr := hide (show dg l (S + M + 1 + G) = (n + 1) + dg l (S + M + 1 + G + (n + 1)) by rw [hrun.out, dg_yes hd hb, show S + M + 1 + G + n + 1 = S + M + 1 + G + (n + 1) by omega]; omega)
                                obtain ⟨hb1, hb2⟩ := dig_bd hb
                                clear hb hd hrun
                                go_wp2
                                go_round
                                case rel => exact ⟨n + 1, by omega, by go_num, Hr⟩
                                case measure => simp [intOf]; omega
                              | false =>
                                have Hr := hide (show dg l (S + M + 1 + G) = n by rw [hrun.out, dg_no (fun c hc => by rw [hd] at hc; cases hc; exact hb)]; omega)
                                have hnd := dig_not hb
                                clear hb hd hrun
                                by_cases hb1 : 48 ≤ d.toNat
                                · have hb2 : ¬ d.toNat ≤ 57 := fun x => hnd ⟨hb1, x⟩
                                  clear hnd
                                  go_wp2
                                  go_ret
                                  exact ⟨ret_int (by
                                      have h1 := hE.out
                                      have h2 := Hr.out
                                      unfold dg at h2
                                      rw [HN.out, expo_yes hex.out HG.out Hr.out (by omega)]; omega), rfl⟩
                                · clear hnd
                                  go_wp2
                                  go_ret
                                  exact ⟨ret_int (by
                                      have h1 := hE.out
                                      have h2 := Hr.out
                                      unfold dg at h2
                                      rw [HN.out, expo_yes hex.out HG.out Hr.out (by omega)]; omega), rfl⟩
                            · have Hr := hide (show dg l (S + M + 1 + G) = n by rw [hrun.out, dg_no (fun c hc => by rw [none_of hlt] at hc; cases hc)]; omega)
                              clear hrun
                              go_wp2
                              go_ret
                              exact ⟨ret_int (by
                                      have h1 := hE.out
                                      have h2 := Hr.out
                                      unfold dg at h2
                                      rw [HN.out, expo_yes hex.out HG.out Hr.out (by omega)]; omega), rfl⟩

set_option maxRecDepth 100000 in
theorem numI_any (A : Option Addr) (l : List UInt8) (c : Nat) (w : World) (h : BS w A l) (h1 : l.length ≤ 2147483647) :
    Calls Try.prog 22 #[.slice A l.length c] w fun e w' => e = .returned (.int .i64 (numLen l : Int)) ∧ w = w' := by
  rcases Nat.eq_zero_or_pos l.length with h0 | h0
  · obtain rfl : l = [] := List.eq_nil_of_length_eq_zero h0
    have HN := hide (show numLen [] = 0 from rfl)
    go_enter Try.func22, Try.ntmps22
    go_wp2
    go_ret
    exact ⟨ret_int (by rw [HN.out]; rfl), rfl⟩
  · obtain ⟨b, o, rfl, _, _⟩ := h.form h0
    exact numI_some b o l c w h h1 h0
end Go.Proofs.Ytdldnnppijfooaa
