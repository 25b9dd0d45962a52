/- The walk of 'laws.FnCSSJoined': it returns true for every list of bytes. Condition: io.EOF as laid. -/
import Derived.Test.YtngmdgefecebmaaDoorWCss
import Derived.Test.YtngmdgefecebmaaDoorHas
import Derived.Test.YtngmdgefecebmaaDoorSame
namespace Go.Proofs.YtngmdgefecebmaaDoor
open Go.RowKit
set_option linter.unusedVariables false
set_option linter.unusedSimpArgs false

theorem row_cells {w : World} {base n c size : Nat} {E : TypeId} {A : Option Addr} {xs : List Value} (h : w.ownsRow base E size (.slice A n c) n xs) (hn : 0 < n) : ∃ g, A = some ⟨g, 0, none⟩ ∧ ∀ i v, xs[i]? = some v → w.cell? ⟨g, i, none⟩ = some v := by
  obtain ⟨g, cap, hv, _, _⟩ := h.form hn
  injection hv with hA _ _
  subst hA
  refine ⟨g, rfl, fun i v hi => ?_⟩
  have hl := h.1
  have hi' := (List.getElem?_eq_some_iff.1 hi).1
  exact (h.cellAt i (by omega)).trans hi
theorem bytes_take {ps : List Pce} {i : Nat} {d : Pce} (h : ps[i]? = some d) : bytesOf (ps.take (i + 1)) = bytesOf (ps.take i) ++ d.2.2 := by
  obtain ⟨hi, e⟩ := List.getElem?_eq_some_iff.1 h
  rw [List.take_succ_eq_append_getElem hi, e, bytes_snoc]
theorem bytes_len_le (ps : List Pce) (i : Nat) : (bytesOf (ps.take i)).length ≤ (bytesOf ps).length := by
  have h : bytesOf ps = bytesOf (ps.take i) ++ bytesOf (ps.drop i) := by
    unfold bytesOf
    rw [← List.flatMap_append, List.take_append_drop]
  rw [h, List.length_append]
  omega
set_option maxRecDepth 1000000 in
set_option maxHeartbeats 2000000 in
theorem fnCSSJoined_walk (A : Option Addr) (l : List UInt8) (c : Nat) (W : World) (bs : BS W A l) (he : EofIs W) :
    Calls Tryd.prog 3 #[.slice A l.length c] W fun e w' => e = .returned (.bool true) ∧ Below W.heap.size W w' := by
  by_cases h1 : 2147483647 < l.length
  · go_enter Tryd.func3, Tryd.ntmps3
    go_wp2
    go_ret
    exact ⟨rfl, Below.refl _ _⟩
  by_cases h2 : 5000 < l.length
  · go_enter Tryd.func3, Tryd.ntmps3
    go_wp2
    go_ret
    exact ⟨rfl, Below.refl _ _⟩
  cases hb : hasB 0 l with
  | true =>
    have Hb := hide hb
    clear hb
    go_enter Tryd.func3, Tryd.ntmps3
    go_wp2_with (go_at_call 4; (with_reducible refine (has_n A l c l.length 0 0 true _ rfl rfl Hb.out bs (by omega)).mono ?_); rintro e w1 ⟨rfl, rfl⟩)
    go_ret
    exact ⟨rfl, Below.refl _ _⟩
  | false =>
    have Hb := hide hb
    have He := hide he
    have Hz := hide (fun x (hx : x ∈ l) => by obtain ⟨j, hj⟩ := List.getElem?_of_mem hx; exact has_false hb hj : ∀ x ∈ l, x ≠ 0)
    obtain ⟨n, hn⟩ : ∃ n, l.length = n := ⟨_, rfl⟩
    rw [hn] at h1 h2 ⊢
    have Hn := hide hn
    clear hb he hn
    go_enter Tryd.func3, Tryd.ntmps3
    go_wp2_with (first
      | (go_at_call 4; (with_reducible refine (has_n A l c n 0 0 false _ rfl Hn.out Hb.out bs (by omega)).mono ?_); rintro e w1 ⟨rfl, rfl⟩)
      | (go_at_call 5; (with_reducible refine (css_any A l c n _ Hn.out bs (by omega) Hz.out He.out).mono ?_); rintro e w2 ⟨Ao, k, co, ps, rfl, own, pl, hk5, hcat, hdat, hbel⟩))
    have Hown := hide own
    have Hcat := hide hcat
    have Hdat := hide hdat
    have Hpl := hide pl
    clear own hcat hdat pl
    go_loopw [5, 26] (fun av iv wr => ∃ (i m ca : Nat) (Aa : Option Addr), i ≤ k ∧ iv = .int .i64 (i : Int) ∧ av = .slice Aa m ca ∧ Hid (OwnB wr w2.heap.size Aa m ca (bytesOf (ps.take i))) ∧ Hid (Below w2.heap.size w2 wr)) (fun _ iv _ => k - (intOf iv).toNat)
    case atStart => exact ⟨0, 0, 0, _, Nat.zero_le _, rfl, rfl, OwnB.empty w2 (Nat.le_refl _) rfl, (Below.refl _ _).alloc (Nat.le_refl _) _⟩
    case round =>
      obtain ⟨i, m, ca, Aa, hik, rfl, rfl, ow, hbr⟩ := hrel
      by_cases hlt : i < k
      · obtain ⟨d, hd⟩ : ∃ d, ps[i]? = some d := ⟨_, List.getElem?_eq_getElem (by have := Hpl.out; omega)⟩
        obtain ⟨h3, h4⟩ := Hdat.out d (List.mem_of_getElem? hd)
        obtain ⟨q, hq⟩ : ∃ q, d.2.2.length = q := ⟨_, rfl⟩
        have hq0 : 0 < q := by rw [← hq]; exact List.length_pos_iff.2 h3
        obtain ⟨go_, rfl, hcell⟩ := row_cells Hown.out (by omega)
        have hc6 : ∀ j v, (pcells d)[j]? = some v → wr.cell? ⟨go_, i * 6 + j, none⟩ = some v := fun j v hj => by
          have hj6 : j < 6 := by have := (List.getElem?_eq_some_iff.1 hj).1; simpa [pcells] using this
          have hi := (List.getElem?_eq_some_iff.1 hd)
          have h5 := hcell (i * 6 + j) v (by rw [pcells_at hi.1 j hj6, hi.2]; exact hj)
          exact (hbr.out.cell (block_lt_of_cell h5)).trans h5
        have x0 : wr.cell? ⟨go_, i * 6, none⟩ = some (.string d.1) := hc6 0 _ rfl
        have x1 := hc6 1 _ rfl
        have x2 := hc6 2 _ rfl
        have x3 := hc6 3 _ rfl
        have x4 := hc6 4 _ rfl
        have x5 := hc6 5 _ rfl
        rw [hq] at x1
        clear hc6 hcell
        have hbd : BS w2 (some ⟨d.2.1, 0, none⟩) d.2.2 := by
          have h5 := h4.bs 0 d.2.2.length
          simpa using h5
        have hmq : m + q ≤ n := by
          have e1 := bytes_take hd
          have e2 := congrArg List.length e1
          have e3 := bytes_len_le ps (i + 1)
          have e4 := ow.out.len
          have e5 := Hn.out
          rw [Hcat.out] at e3
          rw [List.length_append] at e2
          omega
        have hqz : ((q : Int) == 0) = false := by rw [beq_eq_false_iff_ne]; omega
        obtain ⟨A2, c2, w5, hrun, own2, hbel2⟩ := catS (ow.out.alloc (.cells #[.string d.1, .slice (some ⟨d.2.1, 0, none⟩) q q, .slice none 0 0, .slice none 0 0, .slice none 0 0, .string ⟨#[]⟩] 28)) (hbr.out.alloc hbr.out.size _) hbd q (by omega)
        rw [← bytes_take hd] at own2
        rw [hq] at hrun own2
        have Hrun := hide hrun
        have Own2 := hide own2
        have Hbel2 := hide hbel2
        clear hrun own2 hbel2 hbd h3 h4 hd hq ow hbr hmq
        go_wp2_with (at_builtin; (with_reducible refine wpList_append_runG Hrun.out _ _ ?_ rfl rfl ?_ ?_ ?_); (rfl); (rfl); (rfl))
        go_roundw
        case rel => exact ⟨i + 1, m + q, c2, A2, by omega, by go_num, rfl, Own2, Hbel2⟩
        case measure => simp [intOf]; omega
      · have e0 : i = k := by omega
        have e1 : bytesOf (ps.take i) = l := by rw [e0, ← Hpl.out, List.take_length]; exact Hcat.out
        have hlm : l.length = m := by have := ow.out.len; rw [e1] at this; exact this
        have hbs : BS wr Aa l := by have := ow.out.bs; rw [e1] at this; exact this
        have Hfin := hide (hbel.trans (hbr.out.mono hbel.size))
        have Hlm := hide hlm
        have Hbs := hide hbs
        have Hbl := hide (bs.below Hfin.out)
        clear e0 e1 hlm hbs
        go_wp2_with (go_at_call 6; (with_reducible refine (same_n _ _ l l _ _ _ _ true _ (by simp) Hlm.out Hn.out Hbs.out Hbl.out).mono ?_); rintro e w7 ⟨rfl, rfl⟩)
        go_ret
        exact ⟨rfl, Hfin.out⟩
end Go.Proofs.YtngmdgefecebmaaDoor
