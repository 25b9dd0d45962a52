/- The walk of 'laws.FnMediatype': it returns true for every kind, sub, names, values and number of blanks. No condition. -/
import Derived.Test.YtndoaeipcdcahaaMt
import Derived.Test.YtndoaeipcdcahaaWd
import Derived.Test.YtndoaeipcdcahaaSnoc
namespace Go.Proofs.Ytndoaeipcdcahaa
open Go.RowKit
set_option linter.unusedVariables false
set_option linter.unusedSimpArgs false

theorem lit61 {w : World} {g : Nat} (hg : w.heap.size = g) : BS (w.alloc (.cells #[.int .u8 61] 5)) (some ⟨g, 0, none⟩) [61] := BS.lit hg [61] _ _ _ rfl
/-- What the rounds keep. -/
structure MtRel (W1 wr : World) (media : List UInt8) (bl : Nat) (ps : List Ent) (vs : List (List UInt8)) (i : Nat) (A : Option Addr) (n c : Nat) : Prop where
  own : OwnB wr W1.heap.size A n c (media ++ tailOf bl (ps.take i))
  bel : Below W1.heap.size W1 wr
  ok : ∀ (j : Nat) (y : List UInt8), j < i → vs[j]? = some y → IsW y
theorem MtRel.next {W1 wr w' : World} {media : List UInt8} {bl i n c n' c' : Nat} {A A' : Option Addr} {ns vs : List (List UInt8)} {x y : List UInt8} (h : MtRel W1 wr media bl (ns.zip vs) vs i A n c) (hx : ns[i]? = some x) (hy : vs[i]? = some y) (hw : IsW y)
    (own : OwnB w' W1.heap.size A' n' c' ((((media ++ tailOf bl ((ns.zip vs).take i)) ++ [59]) ++ List.replicate bl 32) ++ x ++ [61] ++ y)) (hb : Below W1.heap.size W1 w') : MtRel W1 w' media bl (ns.zip vs) vs (i + 1) A' n' c' := by
  refine ⟨?_, hb, fun j z hj hz => ?_⟩
  · rw [tail_succ (zip_at hx hy)] at own
    exact own
  · rcases Nat.lt_or_ge j i with h1 | h1
    · exact h.ok j z h1 hz
    · obtain rfl : j = i := by omega
      rw [hy] at hz
      injection hz with hz
      exact hz ▸ hw
theorem zip_words {ns vs : List (List UInt8)} (hns : ∀ x ∈ ns, IsW x) (hvs : ∀ (j : Nat) (y : List UInt8), j < ns.length → vs[j]? = some y → IsW y) : ∀ p ∈ ns.zip vs, IsW p.1 ∧ IsW p.2 := fun p hp => by
  obtain ⟨j, hj⟩ := List.getElem?_of_mem hp
  obtain ⟨p1, p2⟩ := p
  rw [List.getElem?_zip_eq_some] at hj
  exact ⟨hns _ (List.mem_of_getElem? hj.1), hvs j _ (List.getElem?_eq_some_iff.1 hj.1).1 hj.2⟩
theorem zip_match {ns vs ks gs : List (List UInt8)} {k : Nat} (hn : ns.length = k) (hv : vs.length = k) (hk : ks.length = k) (hp : ks.Perm ((ns.zip vs).map (·.1))) (hg : ∀ (i : Nat) (p : Ent), p ∈ ns.zip vs → ks[i]? = some p.1 → gs[i]? = some p.2) :
    ∀ i, i < k → ∃ j, j < k ∧ ks[j]? = ns[i]? ∧ gs[j]? = vs[i]? := fun i hi => by
  have hx : ns[i]? = some ns[i] := List.getElem?_eq_getElem (by omega)
  have hy : vs[i]? = some vs[i] := List.getElem?_eq_getElem (by omega)
  have hm : (ns[i], vs[i]) ∈ ns.zip vs := List.mem_of_getElem? (zip_at hx hy)
  have hk2 : ns[i] ∈ ks := by
    rw [hp.mem_iff]
    exact List.mem_map.2 ⟨_, hm, rfl⟩
  obtain ⟨j, hj⟩ := List.getElem?_of_mem hk2
  exact ⟨j, by have := (List.getElem?_eq_some_iff.1 hj).1; omega, by rw [hj, hx], by rw [hg j _ hm hj, hy]⟩
set_option maxRecDepth 100000 in
set_option maxHeartbeats 4000000 in
theorem fnMediatype_walk (a0 : Option Addr) (l0 : List UInt8) (c0 : Nat) (a1 : Option Addr) (l1 : List UInt8) (c1 : Nat) (a2 : Option Addr) (l2 : List (List UInt8)) (c2 : Nat) (a3 : Option Addr) (l3 : List (List UInt8)) (c3 : Nat) (x4 : Int) (W : World)
    (bs0 : BS W a0 l0) (bs1 : BS W a1 l1) (hc2 : l2.length ≤ c2) (ll2 : LL W a2 l2) (hm2 : ∀ (i : Nat) (y : List UInt8), l2[i]? = some y → y.length ≤ maxLen) (hc3 : l3.length ≤ c3) (ll3 : LL W a3 l3) (hm3 : ∀ (i : Nat) (y : List UInt8), l3[i]? = some y → y.length ≤ maxLen)
    (hw4 : (Lit.int .i64 x4).wf = true) :
    Calls Try.prog 3 #[.slice a0 l0.length c0, .slice a1 l1.length c1, .slice a2 l2.length c2, .slice a3 l3.length c3, .int .i64 x4] W fun e W' => e = .returned (.bool true) ∧ Below W.heap.size W W' := by
  obtain ⟨n0, hn0⟩ : ∃ n, l0.length = n := ⟨_, rfl⟩
  obtain ⟨n1, hn1⟩ : ∃ n, l1.length = n := ⟨_, rfl⟩
  obtain ⟨n2, hn2⟩ : ∃ n, l2.length = n := ⟨_, rfl⟩
  obtain ⟨n3, hn3⟩ : ∃ n, l3.length = n := ⟨_, rfl⟩
  rw [hn2] at hc2
  rw [hn3] at hc3
  have Hn0 := hide hn0
  have Hn1 := hide hn1
  have Hn2 := hide hn2
  have Hn3 := hide hn3
  have Hm2 := hide hm2
  have Hm3 := hide hm3
  have L2 := hide ll2
  have L3 := hide ll3
  have B0 := hide bs0
  have B1 := hide bs1
  rw [hn0, hn1, hn2, hn3]
  clear hn0 hn1 hn2 hn3 hm2 hm3 ll2 ll3 bs0 bs1
  by_cases b0 : 2147483647 < n0
  · go_enter Try.func3, Try.ntmps3
    go_wp2
    go_ret
    exact ⟨rfl, Below.refl _ _⟩
  by_cases b1 : 2147483647 < n1
  · go_enter Try.func3, Try.ntmps3
    go_wp2
    go_ret
    exact ⟨rfl, Below.refl _ _⟩
  by_cases b3 : n3 = n2 ∧ 0 ≤ x4 ∧ x4 ≤ 5
  · obtain ⟨rfl, h40, h45⟩ := b3
    obtain ⟨bl, rfl⟩ : ∃ bl : Nat, x4 = (bl : Int) := ⟨x4.toNat, by omega⟩
    obtain ⟨A1, d1, w1, run1, o1, e1⟩ := cat0 W B0.out c0 (by rw [Hn0.out]; omega)
    rw [Hn0.out] at run1 o1
    obtain ⟨A2, d2, w2, run2, o2, e2⟩ := snoc8 o1 e1 47 (by omega)
    obtain ⟨A3, d3, w3, run3, o3, e3⟩ := catS o2 e2 B1.out c1 (by rw [Hn1.out]; omega)
    rw [Hn1.out] at run3 o3
    obtain ⟨A4, d4, w4, run4, o4, e4⟩ := cat0 w3 o3.bs d3 (by rw [o3.len]; omega)
    rw [o3.len] at run4 o4
    have R1 := hide run1
    have R2 := hide run2
    have R3 := hide run3
    have R4 := hide run4
    have hmd := o3.len
    have bmd := o3.bs
    obtain ⟨media, hmedia⟩ : ∃ m, l0 ++ [47] ++ l1 = m := ⟨_, rfl⟩
    rw [hmedia] at o3 o4 hmd bmd
    have O4 := hide o4
    have E3 := hide e3
    have E4 := hide e4
    have HM := hide hmedia
    have HMd := hide hmd
    have BMd := hide bmd
    clear run1 run2 run3 run4 o1 o2 o3 o4 e1 e2 e3 e4 hmedia hmd bmd
    go_enter Try.func3, Try.ntmps3
    go_wp2_with (first
      | (go_at_call 4; (with_reducible refine (fits_any a2 l2 c2 _ _ L2.out Hn2.out Hm2.out).mono ?_); rintro e wf (⟨rfl, hf2, rfl⟩ | ⟨rfl, rfl⟩))
      | (go_at_call 4; (with_reducible refine (fits_any a3 l3 c3 _ _ L3.out Hn3.out Hm3.out).mono ?_); rintro e wf (⟨rfl, hf3, rfl⟩ | ⟨rfl, rfl⟩))
      | (go_at_call 5; (with_reducible refine (isWord_any a0 l0 c0 n0 _ B0.out Hn0.out (by omega)).mono ?_); rintro e wf (⟨rfl, hwd0, rfl⟩ | ⟨rfl, rfl⟩))
      | (go_at_call 5; (with_reducible refine (isWord_any a1 l1 c1 n1 _ B1.out Hn1.out (by omega)).mono ?_); rintro e wf (⟨rfl, hwd1, rfl⟩ | ⟨rfl, rfl⟩))
      | (go_at_call 6; (with_reducible refine (names_any a2 l2 c2 _ _ L2.out Hn2.out hc2 hf2.1 hf2.2).mono ?_); rintro e wf (⟨rfl, hnm, rfl⟩ | ⟨rfl, rfl⟩))
      | (at_builtin; (with_reducible refine wpList_append_runG R1.out _ _ ?_ rfl rfl ?_ ?_ ?_); (rfl); (rfl); (rfl))
      | (at_builtin; (with_reducible refine wpList_append_runG R2.out _ _ ?_ rfl rfl ?_ ?_ ?_); (rfl); (rfl); (rfl))
      | (at_builtin; (with_reducible refine wpList_append_runG R3.out _ _ ?_ rfl rfl ?_ ?_ ?_); (rfl); (rfl); (rfl))
      | (at_builtin; (with_reducible refine wpList_append_runG R4.out _ _ ?_ rfl rfl ?_ ?_ ?_); (rfl); (rfl); (rfl)))
    all_goals first
      | (go_ret; exact ⟨rfl, Below.refl _ _⟩)
      | skip
    have hn10 : n3 ≤ 10 := by have := hnm.2.2; rw [Hn2.out] at this; exact this
    have hm61 : n0 + 1 + n1 ≤ 61 ∧ 3 ≤ n0 + 1 + n1 := by
      have q1 := hwd0.1; have q2 := hwd0.2.1; have q3 := hwd1.1; have q4 := hwd1.2.1
      rw [Hn0.out] at q1 q2
      rw [Hn1.out] at q3 q4
      omega
    have HC := hide (show Clean media by rw [← HM.out]; exact clean_media hwd0 hwd1)
    have HN := hide hnm
    obtain ⟨m, hm⟩ : ∃ m, n0 + 1 + n1 = m := ⟨_, rfl⟩
    rw [hm] at O4 HMd hm61 R3 R4 ⊢
    have hbl5 : bl ≤ 5 := by omega
    have HF3 := hide hf3.2
    clear hf2 hf3 hwd0 hwd1 hnm h40 h45 hw4
    go_loopg [12, 76] n3 (fun gk tv iv wr => ∃ (i n c : Nat) (A : Option Addr), n3 - i ≤ gk ∧ i ≤ n3 ∧ n ≤ 61 + 67 * i ∧ tv = .slice A n c ∧ iv = .int .i64 (i : Int) ∧ Hid (MtRel w3 wr media bl (l2.zip l3) l3 i A n c))
    case atStart => exact ⟨0, m, d4, A4, by omega, Nat.zero_le _, by omega, by first | rfl | rw [hm], rfl, ⟨by simpa [tailOf] using O4.out, E4.out, fun j y hj => absurd hj (by omega)⟩⟩
    case round =>
      obtain ⟨i, n, c, A, hgk, hik, hn61, rfl, rfl, hr⟩ := hrel
      have hW : Hid (Below W.heap.size W _) := hide (E3.out.trans (hr.out.bel.mono E3.out.size))
      by_cases hi : i < n3
      · obtain ⟨x, hx⟩ : ∃ d, l2[i]? = some d := ⟨_, List.getElem?_eq_getElem (by have := Hn2.out; omega)⟩
        obtain ⟨y, hy⟩ : ∃ d, l3[i]? = some d := ⟨_, List.getElem?_eq_getElem (by have := Hn3.out; omega)⟩
        have hwx : IsW x := HN.out.1 x (List.mem_of_getElem? hx)
        obtain ⟨b1', o1', Ai, ci, rfl, hcx, hxc, hbx⟩ := L2.out i x hx
        obtain ⟨b2', o2', Bi, di, rfl, hcy, hyc, hby⟩ := L3.out i y hy
        obtain ⟨qx, hqx⟩ : ∃ q, x.length = q := ⟨_, rfl⟩
        obtain ⟨qy, hqy⟩ : ∃ q, y.length = q := ⟨_, rfl⟩
        have hqx30 : qx ≤ 30 := hqx ▸ hwx.2.1
        have hym : qy ≤ 2147483647 := hqy ▸ HF3.out i y hy
        rw [hqx] at hcx hxc
        rw [hqy] at hcy hyc
        have ccx := (hW.out.cell (block_lt_of_cell hcx)).trans hcx
        have ccy := (hW.out.cell (block_lt_of_cell hcy)).trans hcy
        have Hx := hide hx
        have Hy := hide hy
        have Hqx := hide hqx
        have Hqy := hide hqy
        have Hbx := hide (hbx.below E3.out)
        have Hby := hide (hby.below E3.out)
        have Hcy := hide hcy
        obtain ⟨A5, d5, w5, run5, o5, e5⟩ := snoc8 hr.out.own hr.out.bel 59 (by omega)
        have R5 := hide run5
        have O5 := hide o5
        have E5 := hide e5
        clear hx hy hqx hqy hbx hby hcx hcy run5 o5 e5 hwx
        go_wp2_with (first
          | (go_at_call 5; (with_reducible refine (isWord_any Bi y di qy _ (Hby.out.below hr.out.bel) Hqy.out hym).mono ?_); rintro e wf (⟨rfl, hwy, rfl⟩ | ⟨rfl, rfl⟩))
          | (at_builtin; (with_reducible refine wpList_append_runG R5.out _ _ ?_ rfl rfl ?_ ?_ ?_); (rfl); (rfl); (rfl)))
        · have hqy30 : qy ≤ 30 := by have := hwy.2.1; rw [Hqy.out] at this; exact this
          have HY := hide hwy
          clear hwy hym ccx ccy
          go_loopg [12, 91] bl (fun gj tv jv wj => ∃ (j c' : Nat) (A' : Option Addr), bl - j ≤ gj ∧ j ≤ bl ∧ tv = .slice A' (n + 1 + j) c' ∧ jv = .int .i64 (j : Int) ∧ Hid (OwnB wj w3.heap.size A' (n + 1 + j) c' (((media ++ tailOf bl ((l2.zip l3).take i)) ++ [59]) ++ List.replicate j 32)) ∧ Hid (Below w3.heap.size w3 wj))
          case atStart => exact ⟨0, d5, A5, by omega, Nat.zero_le _, rfl, rfl, by simpa using O5, E5⟩
          case round =>
            obtain ⟨j, c', A', hgj, hjb, rfl, rfl, ho, he⟩ := hrel
            by_cases hj : j < bl
            · obtain ⟨A6, d6, w6, run6, o6, e6⟩ := snoc8 ho.out he.out 32 (by omega)
              have R6 := hide run6
              have O6 := hide o6
              have E6 := hide e6
              clear run6 o6 e6
              go_wp2_with (at_builtin; (with_reducible refine wpList_append_runG R6.out _ _ ?_ rfl rfl ?_ ?_ ?_); (rfl); (rfl); (rfl))
              go_roundg (bl - (j + 1))
              case rel => exact ⟨j + 1, d6, A6, Nat.le_refl _, by omega, by rw [show n + 1 + (j + 1) = n + 1 + j + 1 by omega], by go_num, by rw [show n + 1 + (j + 1) = n + 1 + j + 1 by omega, List.replicate_succ', ← List.append_assoc]; exact O6, E6⟩
              case measure => omega
            · obtain rfl : j = bl := by omega
              have hbW := E3.out.trans (he.out.mono E3.out.size)
              have cyj := (hbW.cell (block_lt_of_cell Hcy.out)).trans Hcy.out
              have hbj := block_lt_of_cell cyj
              have hiI : (i : Int) < (n3 : Int) := by omega
              have hi0 : (0 : Int) ≤ (i : Int) := by omega
              clear hbW
              go_wp2_with fail
              go_region_law (first
                | ((with_reducible refine step_app (w0 := w3) (A := A') (n := n + 1 + j) (c := c') (B := Ai) (d := ci) (l := (((media ++ tailOf j ((l2.zip l3).take i)) ++ [59]) ++ List.replicate j 32)) (lm := x) _ _ ?_ rfl rfl ?_ ?_ ?_ ?_ ?_ Hqx.out ?_ ?_); (rfl); (rfl); (rfl); ((repeat (first | (with_reducible exact ho.out) | (with_reducible refine OwnB.drew ?_) | (with_reducible refine OwnB.alloc ?_ _) | (with_reducible refine below_drew ?_) | (with_reducible refine below_alloc ?_ _)))); ((repeat (first | (with_reducible exact he.out) | (with_reducible refine OwnB.drew ?_) | (with_reducible refine OwnB.alloc ?_ _) | (with_reducible refine below_drew ?_) | (with_reducible refine below_alloc ?_ _)))); (refine Hbx.out.below ?_; (repeat (first | (with_reducible exact he.out) | (with_reducible refine OwnB.drew ?_) | (with_reducible refine OwnB.alloc ?_ _) | (with_reducible refine below_drew ?_) | (with_reducible refine below_alloc ?_ _)))); (omega); (intro A7 d7 w7 own7 g7 hb7; have cy7 := (E3.out.trans (hb7.mono E3.out.size)).cell (block_lt_of_cell Hcy.out) |>.trans Hcy.out; have hbj7 := block_lt_of_cell cy7; try have lit7 : BS w7 (some ⟨wr.heap.size, 0, none⟩) [61] := BS.grown (by ((repeat (with_reducible refine BS.drew ?_)); (with_reducible refine lit61 ?_); rfl)) g7 (fun k hk e => by injection hk with hk; have hk : wr.heap.size = k := hk; have := ho.out.blk_lt k e; omega)))
                | ((with_reducible refine step_app (w0 := w3) (A := A7) (n := n + 1 + j + qx) (c := d7) (B := some ⟨wr.heap.size, 0, none⟩) (d := 1) (m := 1) (l := (((media ++ tailOf j ((l2.zip l3).take i)) ++ [59]) ++ List.replicate j 32) ++ x) (lm := [61]) _ _ ?_ rfl rfl ?_ ?_ ?_ ?_ ?_ rfl ?_ ?_); (rfl); (rfl); (rfl); ((repeat (first | (with_reducible exact own7) | (with_reducible refine OwnB.drew ?_) | (with_reducible refine OwnB.alloc ?_ _) | (with_reducible refine below_drew ?_) | (with_reducible refine below_alloc ?_ _)))); ((repeat (first | (with_reducible exact hb7) | (with_reducible refine OwnB.drew ?_) | (with_reducible refine OwnB.alloc ?_ _) | (with_reducible refine below_drew ?_) | (with_reducible refine below_alloc ?_ _)))); (repeat (first | (with_reducible exact lit7) | (with_reducible refine BS.drew ?_) | (with_reducible refine BS.alloc ?_ _))); (omega); (intro A8 d8 w8 own8 g8 hb8; have cy8 := (E3.out.trans (hb8.mono E3.out.size)).cell (block_lt_of_cell Hcy.out) |>.trans Hcy.out; have hbj8 := block_lt_of_cell cy8))
                | ((with_reducible refine step_app (w0 := w3) (A := A7) (n := n + 1 + j + qx) (c := d7) (B := some ⟨w7.heap.size, 0, none⟩) (d := 1) (m := 1) (l := (((media ++ tailOf j ((l2.zip l3).take i)) ++ [59]) ++ List.replicate j 32) ++ x) (lm := [61]) _ _ ?_ rfl rfl ?_ ?_ ?_ ?_ ?_ rfl ?_ ?_); (rfl); (rfl); (rfl); ((repeat (first | (with_reducible exact own7) | (with_reducible refine OwnB.drew ?_) | (with_reducible refine OwnB.alloc ?_ _) | (with_reducible refine below_drew ?_) | (with_reducible refine below_alloc ?_ _)))); ((repeat (first | (with_reducible exact hb7) | (with_reducible refine OwnB.drew ?_) | (with_reducible refine OwnB.alloc ?_ _) | (with_reducible refine below_drew ?_) | (with_reducible refine below_alloc ?_ _)))); (((repeat (with_reducible refine BS.drew ?_)); (with_reducible refine lit61 ?_); rfl)); (omega); (intro A8 d8 w8 own8 g8 hb8; have cy8 := (E3.out.trans (hb8.mono E3.out.size)).cell (block_lt_of_cell Hcy.out) |>.trans Hcy.out; have hbj8 := block_lt_of_cell cy8))
                | ((with_reducible refine step_app (w0 := w3) (A := A8) (n := n + 1 + j + qx + 1) (c := d8) (B := Bi) (d := di) (l := (((media ++ tailOf j ((l2.zip l3).take i)) ++ [59]) ++ List.replicate j 32) ++ x ++ [61]) (lm := y) _ _ ?_ rfl rfl ?_ ?_ ?_ ?_ ?_ Hqy.out ?_ ?_); (rfl); (rfl); (rfl); ((repeat (first | (with_reducible exact own8) | (with_reducible refine OwnB.drew ?_) | (with_reducible refine OwnB.alloc ?_ _) | (with_reducible refine below_drew ?_) | (with_reducible refine below_alloc ?_ _)))); ((repeat (first | (with_reducible exact hb8) | (with_reducible refine OwnB.drew ?_) | (with_reducible refine OwnB.alloc ?_ _) | (with_reducible refine below_drew ?_) | (with_reducible refine below_alloc ?_ _)))); (refine Hby.out.below ?_; (repeat (first | (with_reducible exact hb8) | (with_reducible refine OwnB.drew ?_) | (with_reducible refine OwnB.alloc ?_ _) | (with_reducible refine below_drew ?_) | (with_reducible refine below_alloc ?_ _)))); (omega); (intro A9 d9 w9 own9 g9 hb9)))
              all_goals go_wp2
              all_goals (go_roundg (n3 - (i + 1)); (case rel => exact ⟨i + 1, _, d9, A9, Nat.le_refl _, by omega, by omega, rfl, by go_num, hr.out.next Hx.out Hy.out HY.out own9 hb9⟩); (case measure => omega))
        · go_ret
          exact ⟨rfl, hW.out⟩
      · obtain rfl : i = n3 := by omega
        have hnt := hr.out.own.len
        have hnl : n = m + (tailOf bl (l2.zip l3)).length := by
          rw [← hnt, List.take_of_length_le (by rw [List.length_zip, Hn2.out, Hn3.out]; omega), List.length_append, HMd.out]
        obtain ⟨b, o, hA, _⟩ := hr.out.own.bs.form (by omega)
        subst hA
        have hown := hr.out.own
        rw [List.take_of_length_le (by rw [List.length_zip, Hn2.out, Hn3.out]; omega)] at hown
        have hnc := hown.le.1
        have hzl : (l2.zip l3).length ≤ 10 := by rw [List.length_zip, Hn2.out, Hn3.out]; omega
        have hnd : ((l2.zip l3).map (·.1)).Nodup := by rw [zip_fst (by rw [Hn2.out, Hn3.out])]; exact HN.out.2.1
        have hcall := mt_any b o n c m bl _ media (l2.zip l3) _ hown.bs hown.len hnc (by omega) HMd.out (by omega) HC.out rfl (zip_words HN.out.1 (fun j y hj hy => hr.out.ok j y (by have := Hn2.out; omega) hy)) hnd hzl
        have hlies : ((media ++ tailOf bl (l2.zip l3)).take m) = media := by rw [← HMd.out, List.take_left]
        have hbso : BS _ (some ⟨b, o, none⟩) media := hlies ▸ hown.bs.take m
        have HCall := hide hcall
        have HBso := hide hbso
        have HBel := hide hr.out.bel
        clear hown hcall hbso hlies hnd hzl hnl hnt hn61 hr
        have hsame : (media == media) = true := by simp
        have Hsame := hide hsame
        clear hsame
        go_wp2_with (first
          | (go_at_call 7; (with_reducible refine HCall.out.mono ?_); rintro e w6 ⟨gk, ck, gv, cv, k, ks, gs, rfl, hks, hgs, hperm, hval, hB6⟩)
          | (go_at_call 8; (with_reducible refine (same_n _ _ media media m m _ _ true _ Hsame.out HMd.out HMd.out (HBso.out.below hB6) ((BMd.out.below HBel.out).below hB6)).mono ?_); rintro e w7 ⟨rfl, rfl⟩))
        have hBW : Below W.heap.size W wr := E3.out.trans (HBel.out.mono E3.out.size)
        have hB6W : Below W.heap.size W w6 := hBW.trans (hB6.mono hBW.size)
        have hkl := hks.len
        have hkk : k = i := by
          rw [← hkl, hperm.length_eq, List.length_map, List.length_zip, Hn2.out, Hn3.out]
          omega
        subst hkk
        have hmt := zip_match Hn2.out Hn3.out hkl hperm hval
        have hs2 := L2.out.below hB6W
        have hs3 := L3.out.below hB6W
        have HB6W := hide hB6W
        clear hBW hB6W hkl hperm hval hB6
        by_cases hz : 0 < k
        · obtain ⟨x, hx⟩ : ∃ d, l2[0]? = some d := ⟨_, List.getElem?_eq_getElem (by have := Hn2.out; omega)⟩
          obtain ⟨y, hy⟩ : ∃ d, l3[0]? = some d := ⟨_, List.getElem?_eq_getElem (by have := Hn3.out; omega)⟩
          obtain ⟨b1', o1', _, _, rfl, _⟩ := hs2 0 x hx
          obtain ⟨b2', o2', _, _, rfl, _⟩ := hs3 0 y hy
          refine (pairs_any gk gv ck cv k b1' o1' b2' o2' c2 c3 _ ks gs l2 l3 _ hks hgs hs2 hs3 Hn2.out Hn3.out hn10 hmt).mono ?_
          rintro e w8 ⟨rfl, q, rfl⟩
          clear hx hy hks hgs hs2 hs3 hmt
          go_wp2
          go_ret
          exact ⟨rfl, below_drewN HB6W.out _⟩
        · obtain rfl : k = 0 := by omega
          refine (pairs_zero (some ⟨gk, 0, none⟩) (some ⟨gv, 0, none⟩) a2 a3 ck cv c2 c3 _).mono ?_
          rintro e w8 ⟨rfl, q, rfl⟩
          clear hks hgs hs2 hs3 hmt
          go_wp2
          go_ret
          exact ⟨rfl, below_drewN HB6W.out _⟩
  · have b4 : ¬ n3 = n2 ∨ x4 < 0 ∨ (0 ≤ x4 ∧ 5 < x4) := by omega
    rcases b4 with b4 | b4 | ⟨b4, b5⟩
    all_goals clear b3
    all_goals go_enter Try.func3, Try.ntmps3
    all_goals go_wp2_with (first
      | (go_at_call 4; (with_reducible refine (fits_any a2 l2 c2 _ _ L2.out Hn2.out Hm2.out).mono ?_); rintro e wf (⟨rfl, hf2, rfl⟩ | ⟨rfl, rfl⟩))
      | (go_at_call 4; (with_reducible refine (fits_any a3 l3 c3 _ _ L3.out Hn3.out Hm3.out).mono ?_); rintro e wf (⟨rfl, hf3, rfl⟩ | ⟨rfl, rfl⟩))
      | (go_at_call 5; (with_reducible refine (isWord_any a0 l0 c0 n0 _ B0.out Hn0.out (by omega)).mono ?_); rintro e wf (⟨rfl, hwd0, rfl⟩ | ⟨rfl, rfl⟩))
      | (go_at_call 5; (with_reducible refine (isWord_any a1 l1 c1 n1 _ B1.out Hn1.out (by omega)).mono ?_); rintro e wf (⟨rfl, hwd1, rfl⟩ | ⟨rfl, rfl⟩))
      | (go_at_call 6; (with_reducible refine (names_any a2 l2 c2 _ _ L2.out Hn2.out hc2 hf2.1 hf2.2).mono ?_); rintro e wf (⟨rfl, hnm, rfl⟩ | ⟨rfl, rfl⟩)))
    all_goals (go_ret; exact ⟨rfl, Below.refl _ _⟩)
end Go.Proofs.Ytndoaeipcdcahaa
