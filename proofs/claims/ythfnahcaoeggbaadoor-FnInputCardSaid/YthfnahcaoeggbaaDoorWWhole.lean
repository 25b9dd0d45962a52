/- The walk of 'laws.FnInputWhole': it returns true for every list of bytes and every list of numbers. Condition: io.EOF as laid; the lists are within their capacity. -/
import Derived.Test.YthfnahcaoeggbaaDoorScript
import Derived.Test.YthfnahcaoeggbaaDoorRow
import Derived.Test.YthfnahcaoeggbaaDoorSame
namespace Go.Proofs.YthfnahcaoeggbaaDoor
open Go.RowKit
set_option linter.unusedVariables false

def scells (x : Int × Int) : List Value := [.int .i64 x.1, .int .i64 x.2]
def dval (x : List UInt8 × Option Addr × Nat) : Value := .slice x.2.1 x.1.length x.2.2
theorem stp_info : (Tryd.prog.info? 33).map (fun i => (i.zero, i.size, i.bytes)) = some (some (.agg #[.int .i64 0, .int .i64 0]), 2, 16) := by kernel_rfl
theorem sl_info : (Tryd.prog.info? 22).map (fun i => (i.zero, i.size, i.bytes)) = some (some (.slice none 0 0), 1, 24) := by kernel_rfl
/-- What stands at the head of the first loop. -/
structure WhRel (W : World) (l : List UInt8) (k : Nat) (As : Option Addr) (cs : Nat) (Ad : Option Addr) (cd : Nat) (Ar : Option Addr) (cr t : Nat) (ss : List (Int × Int)) (gs : List Got) (dd : List (List UInt8 × Option Addr × Nat)) (wr : World) : Prop where
  tl : t ≤ l.length
  rc : l.length - t ≤ cr
  rest : BS W Ar (l.drop t)
  run : runL l ss = some (t, t, gs)
  sl : ss.length = 2 * k
  gl : gs.length = 2 * k
  dl : dd.length = k
  own1 : wr.ownsRow W.heap.size 33 2 (.slice As (2 * k) cs) (2 * k) (ss.flatMap scells)
  own2 : wr.ownsRow W.heap.size 22 1 (.slice Ad k cd) k (dd.map dval)
  apart : ∀ b, blk As = some b → blk Ad ≠ some b
  dat : ∀ i d, dd[i]? = some d → BS W d.2.1 d.1 ∧ gs[2 * i + 1]? = some (0, 0, d.1)
  bel : Below W.heap.size W wr
theorem flat_at {ss : List (Int × Int)} {i : Nat} (h : i < ss.length) : (ss.flatMap scells)[i * 2]? = some (.int .i64 ss[i].1) ∧ (ss.flatMap scells)[i * 2 + 1]? = some (.int .i64 ss[i].2) := by
  induction ss generalizing i with
  | nil => simp at h
  | cons x r ih =>
    rw [List.flatMap_cons]
    cases i with
    | zero => simp [scells]
    | succ j =>
      have := ih (i := j) (by simpa using h)
      have e1 : (j + 1) * 2 = (j * 2) + 1 + 1 := by omega
      rw [e1]
      simpa [scells] using this
theorem WhRel.next {W wr : World} {l : List UInt8} {k cs cd cr t : Nat} {As Ad Ar : Option Addr} {ss : List (Int × Int)} {gs : List Got} {dd : List (List UInt8 × Option Addr × Nat)} (h : WhRel W l k As cs Ad cd Ar cr t ss gs dd wr) (q : Nat) (hq : q ≤ l.length - t) (hk : k ≤ 200) :
    ∃ As' cs' w4, (Builtin.append_ #[23, 23] 23 #[.slice As (2 * k) cs, .slice (some ⟨wr.heap.size, 0, none⟩) 2 2]).run Tryd.prog (wr.alloc (.cells #[.int .i64 2, .int .i64 (q : Int), .int .i64 4, .int .i64 0] 33)) = .ok (.slice As' (2 * k + 2) cs') w4 ∧
    ∃ Ad' cd' w5, (Builtin.append_ #[31, 31] 31 #[.slice Ad k cd, .slice (some ⟨w4.heap.size, 0, none⟩) 1 1]).run Tryd.prog (w4.alloc (.cells #[.slice Ar q cr] 22)).drew = .ok (.slice Ad' (k + 1) cd') w5 ∧
    WhRel W l (k + 1) As' cs' Ad' cd' (loA Ar cr q) (cr - q) (t + q) (ss ++ [(2, (q : Int)), (4, 0)]) (gs ++ [(0, 0, []), (0, 0, (l.drop t).take q)]) (dd ++ [((l.drop t).take q, Ar, cr)]) w5 := by
  obtain ⟨tl, rc, rest, run, sl, gl, dl, own1, own2, apart, dat, bel⟩ := h
  have hsz := bel.size
  have l1 := row_lt own1
  have l2 := row_lt own2
  have hdl : (l.drop t).length = l.length - t := by simp
  have htk : ((l.drop t).take q).length = q := by simp; omega
  obtain ⟨As', cs', w4, hrun1, o1, g1, b1⟩ := row_app 23 33 Tryd.underlying23 stp_info rfl (by omega) (own1.alloc (.cells #[.int .i64 2, .int .i64 (q : Int), .int .i64 4, .int .i64 0] 33)) (by simp; omega) wr.heap.size 2 (by omega) (news := [.int .i64 2, .int .i64 (q : Int), .int .i64 4, .int .i64 0]) rfl
    (fun j u hj => by rw [World.cell?_alloc_mark]; simpa using hj) (fun u hu => by simp at hu; rcases hu with rfl | rfl | rfl | rfl <;> rfl) (by omega) (by omega)
  have g1' : wr.grownBy w4 (blk As) := by
    refine World.grownBy.trans ?_ g1
    exact grown_alloc wr _ (blk As)
  have hs4 := g1'.size
  have bel4 : Below W.heap.size W w4 := bel.grown g1' hsz (fun k hk => (l1 k hk).1)
  have own2' := row_kept own2 g1' (fun b hb e => apart b e hb)
  have hbs' := lo_bs rest cr q (by rw [hdl]; exact rc)
  obtain ⟨Ad', cd', w5, hrun2, o2, g2, b2⟩ := row_app 31 22 Tryd.underlying31 sl_info rfl (by omega) (W := (w4.alloc (.cells #[.slice Ar q cr] 22)).drew) (own2'.alloc (.cells #[.slice Ar q cr] 22)) (by show W.heap.size ≤ (w4.alloc _).heap.size; simp; omega) w4.heap.size 1 (by omega) (news := [.slice Ar q cr]) rfl
    (fun j u hj => by show (w4.alloc _).cell? _ = _; rw [World.cell?_alloc_mark]; simpa using hj) (fun u hu => by simp at hu; subst hu; rfl) (by omega) (by omega)
  have g2' : w4.grownBy w5 (blk Ad) := by
    refine World.grownBy.trans ?_ g2
    exact (grown_alloc w4 _ (blk Ad)).trans (grown_drewN _ 1 _)
  have l1' := row_lt o1
  have l2' := row_lt own2'
  have bsz : ∀ b, blk As' = some b → blk Ad ≠ some b := fun b e e2 => by
    rcases b1 with e3 | e3
    · exact apart b (e3.symm.trans e) e2
    · rw [e] at e3
      injection e3 with e3
      have := (l2 b e2).2
      simp at e3
      omega
  refine ⟨As', cs', w4, hrun1, Ad', cd', w5, hrun2, ⟨by omega, by omega, ?_, ?_, by simp; omega, by simp; omega, by simp; omega, ?_, ?_, ?_, ?_, ?_⟩⟩
  · rw [List.drop_drop] at hbs'
    exact hbs'
  · have e : ss ++ [(2, (q : Int)), (4, 0)] = (ss ++ [(2, (q : Int))]) ++ [(4, 0)] := by simp
    have i1 : isIn l t (q : Int) = true := decide_eq_true (by omega)
    rw [e, runL_snoc, runL_snoc, run]
    simp only [runStep, Option.bind_some]
    rw [stepF_2, i1]
    simp only [if_true, Option.map_some, Option.bind_some]
    rw [stepF_4]
    simp [sel]
  · have := row_kept o1 g2' (fun b hb e => bsz b hb e)
    rw [List.flatMap_append]
    have e2 : 2 * (k + 1) = 2 * k + 2 := by omega
    rw [e2]
    exact this
  · rw [List.map_append]
    have e3 : ([((l.drop t).take q, Ar, cr)] : List (List UInt8 × Option Addr × Nat)).map dval = [.slice Ar q cr] := by simp only [List.map_cons, List.map_nil, dval, htk]
    rw [e3]
    exact o2
  · intro b e e2
    rcases b2 with e3 | e3
    · exact bsz b e (e3.symm.trans e2)
    · rw [e2] at e3
      injection e3 with e3
      have h1 := (l1' b e).2
      have e4 : b = (w4.alloc (.cells #[.slice Ar q cr] 22)).heap.size := e3
      simp at e4
      omega
  · intro i d hi
    rcases Nat.lt_or_ge i k with hik | hik
    · rw [List.getElem?_append_left (by omega)] at hi
      rw [List.getElem?_append_left (by omega)]
      exact dat i d hi
    · have hil : i < (dd ++ [((l.drop t).take q, Ar, cr)]).length := (List.getElem?_eq_some_iff.1 hi).1
      simp at hil
      obtain rfl : i = k := by omega
      rw [List.getElem?_append_right (by omega), dl, Nat.sub_self] at hi
      simp at hi
      subst hi
      rw [List.getElem?_append_right (by omega), gl]
      refine ⟨rest.take q, ?_⟩
      rw [show 2 * i + 1 - 2 * i = 1 by omega]
      rfl
  · exact bel4.grown g2' bel4.size (fun k hk => (l2' k hk).1)
theorem row_cells {w : World} {base n c size : Nat} {E : TypeId} {A : Option Addr} {xs : List Value} (h : w.ownsRow base E size (.slice A n c) n xs) (hn : 0 < n) : ∃ g, A = some ⟨g, 0, none⟩ ∧ ∀ i v, xs[i]? = some v → w.cell? ⟨g, i, none⟩ = some v := by
  obtain ⟨g, cap, hv, _, _⟩ := h.form hn
  injection hv with hA _ _
  subst hA
  refine ⟨g, rfl, fun i v hi => ?_⟩
  have := h.cells (g := g) rfl i v hi
  unfold Addr.add at this
  split at this
  · rename_i h0; subst h0; simpa using this
  · simpa using this
theorem steps_of_row {w : World} {base n c : Nat} {A : Option Addr} {ss : List (Int × Int)} (h : w.ownsRow base 33 2 (.slice A n c) n (ss.flatMap scells)) (hs : ss.length = n) : StepsAt w A ss := fun i hi => by
  obtain ⟨g, rfl, hc⟩ := row_cells h (by omega)
  obtain ⟨h1, h2⟩ := flat_at hi
  refine ⟨g, 0, rfl, ?_, ?_⟩
  · rw [Nat.zero_add]
    exact hc _ _ h1
  · rw [Nat.zero_add]
    exact hc _ _ h2
theorem script_n (A : Option Addr) (l : List UInt8) (c : Nat) (B : Option Addr) (ss : List (Int × Int)) (n d m : Nat) (w : World) (p s : Nat) (gs : List Got) (bs : BS w A l) (hl : l.length ≤ 2147483647) (hn : ss.length = n) (hm : gs.length = m) (hss : n ≤ 2147483647) (hst : StepsAt w B ss) (he : EofIs w) (hrun : runL l ss = some (p, s, gs)) :
    Calls Tryd.prog 7 #[.slice A l.length c, .slice B n d] w fun e w' => ∃ A' c' xs, e = .returned (.slice A' m c') ∧ Gots w' w.heap.size A' m c' xs ∧ xs.map (·.1) = gs ∧ Below w.heap.size w w' := by
  subst hn hm
  exact script_any A l c B ss d w p s gs bs hl hss hst he hrun
theorem gcell_at {xs : List (Got × Option Addr × Nat)} {i : Nat} {x : Got × Option Addr × Nat} (h : xs[i]? = some x) : (xs.flatMap gcells)[i * 3 + 2]? = some (.slice x.2.1 x.1.2.2.length x.2.2) := by
  induction xs generalizing i with
  | nil => simp at h
  | cons y r ih =>
    rw [List.flatMap_cons]
    cases i with
    | zero =>
      simp at h
      subst h
      simp [gcells]
    | succ j =>
      have := ih (i := j) (by simpa using h)
      have e1 : (j + 1) * 3 + 2 = (j * 3 + 2) + 1 + 1 + 1 := by omega
      rw [e1]
      simpa [gcells] using this
set_option maxHeartbeats 1000000 in
theorem fnInputWhole_walk (A : Option Addr) (l : List UInt8) (c : Nat) (B : Option Addr) (zs : List Int) (d : Nat) (W : World) (bs : BS W A l) (hc : l.length ≤ c) (hz : IntsAt W B zs) (hzr : ∀ i, (h : i < zs.length) → -9223372036854775808 ≤ zs[i] ∧ zs[i] ≤ 9223372036854775807) (he : EofIs W) :
    Calls Tryd.prog 4 #[.slice A l.length c, .slice B zs.length d] W fun e w' => e = .returned (.bool true) ∧ Below W.heap.size W w' := by
  have Hz := hide hz
  have He := hide he
  have Hzr := hide hzr
  clear hz he hzr
  by_cases h1 : 2147483647 < l.length
  · go_enter Tryd.func4, Tryd.ntmps4
    go_wp2
    go_ret
    exact ⟨rfl, Below.refl _ _⟩
  by_cases h2 : 2147483647 < zs.length
  · go_enter Tryd.func4, Tryd.ntmps4
    go_wp2
    go_ret
    exact ⟨rfl, Below.refl _ _⟩
  by_cases h3 : 5000 < l.length
  · go_enter Tryd.func4, Tryd.ntmps4
    go_wp2
    go_ret
    exact ⟨rfl, Below.refl _ _⟩
  by_cases h4 : 200 < zs.length
  · go_enter Tryd.func4, Tryd.ntmps4
    go_wp2
    go_ret
    exact ⟨rfl, Below.refl _ _⟩
  go_enter Tryd.func4, Tryd.ntmps4
  go_wp2
  have start : WhRel W l 0 (some ⟨W.heap.size, 0, none⟩) 0 (some ⟨W.heap.size + 1, 0, none⟩) 0 A c 0 [] [] [] ((W.alloc (.cells #[] 33)).alloc (.cells #[] 22)) := by
    refine ⟨Nat.zero_le _, hc, by simpa using bs, rfl, rfl, rfl, rfl, (World.ownsRow_made W #[] 0 (Nat.le_refl _) (by simp [maxLen]) rfl).alloc _, ?_, ?_, fun i d h => by simp at h, ((Below.refl _ _).alloc (Nat.le_refl _) _).alloc (by simp) _⟩
    · have := World.ownsRow_made (base := W.heap.size) (e := 22) (size := 1) (W.alloc (.cells #[] 33)) #[] 0 (by simp) (by simp [maxLen]) rfl
      simpa using this
    · intro b e e2
      injection e with e
      injection e2 with e2
      have e : W.heap.size = b := e
      have e2 : W.heap.size + 1 = b := e2
      omega
  have Start := hide start
  clear start
  go_loopw [5, 6, 7, 34] (fun s dv r i wr => ∃ (k m : Nat) (As : Option Addr) (cs : Nat) (Ad : Option Addr) (cd : Nat) (Ar : Option Addr) (n cr t : Nat) (ss : List (Int × Int)) (gs : List Got) (dd : List (List UInt8 × Option Addr × Nat)),
      k ≤ zs.length ∧ i = .int .i64 (k : Int) ∧ m = 2 * k ∧ s = .slice As m cs ∧ dv = .slice Ad k cd ∧ n = l.length - t ∧ r = .slice Ar n cr ∧ Hid (WhRel W l k As cs Ad cd Ar cr t ss gs dd wr))
    (fun _ _ _ i _ => zs.length - (intOf i).toNat)
  case atStart => exact ⟨0, 0, _, 0, _, 0, _, l.length, c, 0, [], [], [], Nat.zero_le _, rfl, rfl, rfl, rfl, rfl, rfl, Start⟩
  case round =>
    obtain ⟨k, m, As, cs, Ad, cd, Ar, n, cr, t, ss, gs, dd, hk, rfl, hm, rfl, rfl, hn, rfl, hr⟩ := hrel
    have Hm := hide hm
    have Hn := hide hn
    clear hm hn
    by_cases hlt : k < zs.length
    · obtain ⟨b, o, rfl, cz⟩ := (Hz.out.below hr.out.bel) k hlt
      have hnl : n ≤ 5000 := by have := Hn.out; omega
      obtain ⟨zr1, zr2⟩ := Hzr.out k hlt
      obtain ⟨x, hx⟩ : ∃ x, zs[k] = x := ⟨_, rfl⟩
      rw [hx] at cz zr1 zr2
      clear hx
      by_cases hx0 : x < 0
      · go_wp2
        go_ret
        exact ⟨rfl, hr.out.bel⟩
      by_cases hxn : (n : Int) < x
      · go_wp2
        go_ret
        exact ⟨rfl, hr.out.bel⟩
      obtain ⟨q, rfl⟩ : ∃ q : Nat, x = (q : Int) := ⟨x.toNat, by omega⟩
      have hq : q ≤ n := by omega
      clear hx0 hxn zr1 zr2
      obtain ⟨As', cs', w4, hrun1, Ad', cd', w5, hrun2, hr'⟩ := hr.out.next q (by have := Hn.out; omega) (by omega)
      have hqc : q ≤ cr := by have := hr.out.rc; have := Hn.out; omega
      rw [← Hm.out] at hrun1
      have Hrun1 := hide hrun1
      have Hrun2 := hide hrun2
      have Hr' := hide hr'
      clear hrun1 hrun2 hr'
      go_wp2_with (at_builtin; (with_reducible refine wpList_append_runG Hrun1.out _ _ ?_ rfl rfl ?_ ?_ ?_); (rfl); (rfl); (rfl))
      go_region_law ((with_reducible refine step_append_runG Hrun2.out _ _ ?_ rfl rfl ?_ ?_ ?_); (rfl); (rfl); (rfl))
      go_wp2
      go_roundw
      case rel => exact ⟨k + 1, m + 2, As', cs', Ad', cd', _, n - q, cr - q, t + q, _, _, _, by omega, by go_num, by have := Hm.out; omega, rfl, rfl, by have := Hn.out; omega, rfl, Hr'⟩
      case measure => simp [intOf]; omega
    · have hss := (hr.out.sl).trans Hm.out.symm
      have hgs := (hr.out.gl).trans Hm.out.symm
      have hm400 : m ≤ 400 := by have := Hm.out; omega
      have hst := steps_of_row (by have := hr.out.own1; rwa [← Hm.out] at this) hss
      have bsr := bs.below hr.out.bel
      have her := He.out.below hr.out.bel
      go_wp2_with fail
      refine (script_n A l c As ss m cs m _ t t gs bsr (by omega) hss hgs (by omega) hst her hr.out.run).mono ?_
      rintro e w6 ⟨Ag, cg, xs, rfl, hgot, hxs, hB6⟩
      have HB6 := hide (hr.out.bel.trans (hB6.mono hr.out.bel.size))
      have HB := hide hB6
      have Hgot := hide hgot
      have Hxs := hide hxs
      clear hss hgs hst bsr her hgot hxs hB6
      go_wp2
      go_loop [72] (fun j => ∃ i : Nat, i ≤ k ∧ j = .int .i64 (i : Int)) (fun j => k - (intOf j).toNat)
      case atStart => exact ⟨0, Nat.zero_le _, rfl⟩
      case round =>
        obtain ⟨i, hi, rfl⟩ := hrel
        by_cases hik : i < k
        · obtain ⟨x, hx⟩ : ∃ x, dd[i]? = some x := ⟨_, List.getElem?_eq_getElem (by have := hr.out.dl; omega)⟩
          obtain ⟨hxb, hxg⟩ := hr.out.dat i x hx
          obtain ⟨bd, rfl, hcd⟩ := row_cells hr.out.own2 (by omega)
          have cd1 := hcd i (dval x) (by rw [List.getElem?_map, hx]; rfl)
          have cd2 := (HB.out.cell (block_lt_of_cell cd1)).trans cd1
          obtain ⟨y, hy⟩ : ∃ y, xs[2 * i + 1]? = some y := ⟨_, List.getElem?_eq_getElem (by have := Hgot.out.len; have := Hm.out; omega)⟩
          have hyg : y.1 = (0, 0, x.1) := by
            have e := hxg
            rw [← Hxs.out, List.getElem?_map, hy] at e
            simpa using e
          obtain ⟨bg, rfl, hcg⟩ := row_cells Hgot.out.own (by have := Hm.out; omega)
          have cg1 := hcg _ _ (gcell_at hy)
          have hyb := Hgot.out.bs y (List.mem_of_getElem? hy)
          rw [hyg] at cg1 hyb
          unfold dval at cd2
          simp only at cg1 hyb
          have Hxb := hide ((hxb.below hr.out.bel).below HB.out)
          have Hyb := hide hyb
          clear hx hxb hxg hcd cd1 hy hyg hcg hyb
          have hbd : 2 * (i : Int) + 1 < (m : Int) := by have := Hm.out; omega
          go_wp2_with fail
          refine (same_n _ _ x.1 x.1 _ _ _ _ true _ (by simp) rfl rfl Hyb.out Hxb.out).mono ?_
          rintro e w7 ⟨rfl, rfl⟩
          go_wp2
          go_round
          case rel => exact ⟨i + 1, by omega, by go_num⟩
          case measure => simp [intOf]; omega
        · go_wp2
          go_ret
          exact ⟨rfl, HB6.out⟩
end Go.Proofs.YthfnahcaoeggbaaDoor
