/- The walk of 'laws.FnInput': it returns true for every list of bytes and every list of steps. Condition: io.EOF as laid; the lists are within their capacity. -/
import Derived.Test.YthfnahcaoeggbaaDoorSteps
import Derived.Test.YthfnahcaoeggbaaDoorSame
import Derived.Test.YthfnahcaoeggbaaDoorWWhole
import Derived.Deep.Slices
import Derived.ChangeArms
import Derived.ChangeSame
namespace Go.Proofs.YthfnahcaoeggbaaDoor
open Go.RowKit Go.ChangeShapes Go.WideShapes Go.ChangeAt
set_option linter.unusedVariables false

theorem gcells_at {xs : List (Got × Option Addr × Nat)} {i : Nat} {x : Got × Option Addr × Nat} (h : xs[i]? = some x) : (xs.flatMap gcells)[i * 3]? = some (.int .i64 x.1.1) ∧ (xs.flatMap gcells)[i * 3 + 1]? = some (.int .i64 x.1.2.1) ∧ (xs.flatMap gcells)[i * 3 + 2]? = some (.slice x.2.1 x.1.2.2.length x.2.2) := by
  induction xs generalizing i with
  | nil => simp at h
  | cons y r ih =>
    rw [List.flatMap_cons]
    cases i with
    | zero =>
      simp at h
      subst h
      simp [gcells]
    | succ j =>
      have := ih (i := j) (by simpa using h)
      have e0 : (j + 1) * 3 = (j * 3) + 1 + 1 + 1 := by omega
      have e1 : (j + 1) * 3 + 1 = (j * 3 + 1) + 1 + 1 + 1 := by omega
      have e2 : (j + 1) * 3 + 2 = (j * 3 + 2) + 1 + 1 + 1 := by omega
      rw [e2, e1, e0]
      simpa [gcells] using this
set_option maxHeartbeats 1000000 in
theorem sameGots_any (A B : Option Addr) (n c d base : Nat) (xs ys : List (Got × Option Addr × Nat)) (w : World) (hx : w.ownsRow base 36 3 (.slice A n c) n (xs.flatMap gcells)) (hy : w.ownsRow base 36 3 (.slice B n d) n (ys.flatMap gcells))
    (hxn : xs.length = n) (hxy : xs.map (·.1) = ys.map (·.1)) (hxb : ∀ x ∈ xs, BS w x.2.1 x.1.2.2) (hyb : ∀ x ∈ ys, BS w x.2.1 x.1.2.2) (hn : n ≤ 2147483647) :
    Calls Tryd.prog 6 #[.slice A n c, .slice B n d] w fun e w' => e = .returned (.bool true) ∧ Below w.heap.size w w' := by
  have Hxn := hide hxn
  have Hxy := hide hxy
  have Hxb := hide hxb
  have Hyb := hide hyb
  clear hxn hxy hxb hyb
  go_enter Tryd.func6, Tryd.ntmps6
  go_wp2
  go_loopw [14] (fun i wr => ∃ k : Nat, k ≤ n ∧ i = .int .i64 (k : Int) ∧ Hid (Below w.heap.size w wr)) (fun i _ => n - (intOf i).toNat)
  case atStart => exact ⟨0, Nat.zero_le _, rfl, hide (Below.refl _ _)⟩
  case round =>
    obtain ⟨k, hk, rfl, hbel⟩ := hrel
    by_cases hlt : k < n
    · obtain ⟨x, hxk⟩ : ∃ x, xs[k]? = some x := ⟨_, List.getElem?_eq_getElem (by have := Hxn.out; omega)⟩
      obtain ⟨y, hyk, hxyk⟩ : ∃ y, ys[k]? = some y ∧ y.1 = x.1 := by
        have e := congrArg (·[k]?) Hxy.out
        simp only [List.getElem?_map, hxk, Option.map_some] at e
        obtain ⟨y, hy1, hy2⟩ := Option.map_eq_some_iff.1 e.symm
        exact ⟨y, hy1, hy2⟩
      obtain ⟨g1, rfl, hc1⟩ := row_cells hx (by omega)
      obtain ⟨g2, rfl, hc2⟩ := row_cells hy (by omega)
      obtain ⟨x0, x1, x2⟩ := gcells_at hxk
      obtain ⟨y0, y1, y2⟩ := gcells_at hyk
      have bx := (Hxb.out x (List.mem_of_getElem? hxk)).below hbel.out
      have byy := (Hyb.out y (List.mem_of_getElem? hyk)).below hbel.out
      rw [hxyk] at y0 y1 y2 byy
      have keep : ∀ (g i : Nat) (v : Value), w.cell? ⟨g, i, none⟩ = some v → ∀ w2, Below w.heap.size w w2 → w2.cell? ⟨g, i, none⟩ = some v := fun g i v h w2 hb => (hb.cell (block_lt_of_cell h)).trans h
      have cx0 := keep _ _ _ (hc1 _ _ x0) _ hbel.out
      have cx1 := keep _ _ _ (hc1 _ _ x1) _ hbel.out
      have cx2 := keep _ _ _ (hc1 _ _ x2) _ hbel.out
      have cy0 := keep _ _ _ (hc2 _ _ y0) _ hbel.out
      have cy1 := keep _ _ _ (hc2 _ _ y1) _ hbel.out
      have cy2 := keep _ _ _ (hc2 _ _ y2) _ hbel.out
      obtain ⟨⟨num, oth, data⟩, Ax, ax⟩ := x
      obtain ⟨yy, Ay, ay⟩ := y
      simp only at cx0 cx1 cx2 cy0 cy1 cy2 bx byy
      have Bx := hide (bx.alloc (.cells #[.int .i64 num, .int .i64 oth, .slice Ax data.length ax] 36))
      have By := hide (byy.alloc (.cells #[.int .i64 num, .int .i64 oth, .slice Ax data.length ax] 36))
      have hg1 : g1 < wr.heap.size := block_lt_of_cell cx0
      have hg2 : g2 < wr.heap.size := block_lt_of_cell cy0
      have n1 : (num != num) = false := by simp
      have n2 : (oth != oth) = false := by simp
      clear hxk hyk hxyk hc1 hc2 x0 x1 x2 y0 y1 y2 bx byy keep
      go_wp2
      go_quiet ((go_at_call 8; first | exact quiet_left (same_n _ _ data data _ _ _ _ true _ (by simp) rfl rfl Bx.out By.out) | exact quiet_add_left (same_n _ _ data data _ _ _ _ true _ (by simp) rfl rfl Bx.out By.out)))
      have HB := hide ((hbel.out.alloc hbel.out.size (.cells #[.int .i64 num, .int .i64 oth, .slice Ax data.length ax] 36)))
      clear cx0 cx1 cx2 cy0 cy1 cy2 n1 n2
      go_wp2
      go_roundw
      case rel => exact ⟨k + 1, by omega, by go_num, hide (below_drewN HB.out _)⟩
      case measure => simp [intOf]; omega
    · go_wp2
      go_ret
      exact ⟨rfl, hbel.out⟩
theorem row_more {w : World} {base base' n c size : Nat} {E : TypeId} {A : Option Addr} {xs : List Value} (h : w.ownsRow base E size (.slice A n c) n xs) (hb : base' ≤ base) : w.ownsRow base' E size (.slice A n c) n xs := by
  refine ⟨h.1, ?_⟩
  rcases h.2 with h1 | ⟨g, cap, cur, h1, h2, h3⟩
  · exact .inl h1
  · exact .inr ⟨g, cap, cur, h1, Nat.le_trans hb h2, h3⟩
set_option maxHeartbeats 1000000 in
theorem fnInput_walk (A : Option Addr) (l : List UInt8) (c : Nat) (B : Option Addr) (ss : List (Int × Int)) (d : Nat) (W : World) (bs : BS W A l) (hc : l.length ≤ c) (hst : StepsAt W B ss) (he : EofIs W) :
    Calls Tryd.prog 3 #[.slice A l.length c, .slice B ss.length d] W fun e w' => e = .returned (.bool true) ∧ Below W.heap.size W w' := by
  have Hst := hide hst
  have He := hide he
  clear hst he
  by_cases h1 : 2147483647 < l.length
  · go_enter Tryd.func3, Tryd.ntmps3
    go_wp2
    go_ret
    exact ⟨rfl, Below.refl _ _⟩
  by_cases h2 : 2147483647 < ss.length
  · go_enter Tryd.func3, Tryd.ntmps3
    go_wp2
    go_ret
    exact ⟨rfl, Below.refl _ _⟩
  by_cases h3 : 5000 < l.length
  · go_enter Tryd.func3, Tryd.ntmps3
    go_wp2
    go_ret
    exact ⟨rfl, Below.refl _ _⟩
  by_cases h4 : 200 < ss.length
  · go_enter Tryd.func3, Tryd.ntmps3
    go_wp2
    go_ret
    exact ⟨rfl, Below.refl _ _⟩
  go_enter Tryd.func3, Tryd.ntmps3
  go_wp2_with fail
  refine (steps_any A l c B ss d _ bs (by omega) hc (by omega) Hst.out).mono ?_
  rintro e w1 ⟨hsome, hnone, hB1⟩
  cases hrun : runL l ss with
  | none =>
    obtain rfl := hnone hrun
    have HB1 := hide hB1
    clear hsome hnone hrun hB1
    go_wp2
    go_ret
    exact ⟨rfl, HB1.out⟩
  | some y =>
    obtain ⟨p, s, gs⟩ := y
    obtain ⟨Ao, co, xs, rfl, hgo, hxs⟩ := hsome p s gs hrun
    have Hrun := hide hrun
    have HB1 := hide hB1
    have Hgo := hide hgo
    have Hxs := hide hxs
    have bs1 := bs.below hB1
    have Hst1 := hide (Hst.out.below hB1)
    have He1 := hide (He.out.below hB1)
    have hgl : gs.length = ss.length := run_lenG hrun
    obtain ⟨m, hm⟩ : ∃ m, gs.length = m := ⟨_, rfl⟩
    rw [hm] at hgo Hgo hgl ⊢
    have Hm := hide hm
    have hm200 : m ≤ 200 := by omega
    clear hsome hnone hrun hB1 hgo hxs hgl hm
    go_wp2_with fail
    refine (script_n A l c B ss _ d m _ p s gs bs1 (by omega) rfl Hm.out (by omega) Hst1.out He1.out Hrun.out).mono ?_
    rintro e w2 ⟨Ag, cg, ys, rfl, hgot, hys, hB2⟩
    have hsz := HB1.out.size
    have HB2 := hide (HB1.out.trans (hB2.mono hsz))
    have hk := row_kept Hgo.out.own (grown_of_below hB2 none) (fun k _ e => by cases e)
    have Hsame := hide (sameGots_any Ag Ao m cg co W.heap.size ys xs w2 (row_more hgot.own hsz) hk hgot.len (hys.trans Hxs.out.symm) hgot.bs (fun x hx => (Hgo.out.bs x hx).below hB2) (by omega))
    clear hgot hys hB2 hk
    go_wp2_with fail
    refine Hsame.out.mono ?_
    rintro e w3 ⟨rfl, hB3⟩
    have HB3 := hide hB3
    clear hB3
    go_wp2
    go_ret
    exact ⟨rfl, HB2.out.trans (HB3.out.mono HB2.out.size)⟩
/-- From a list of facts, a list. -/
theorem list_of {α : Type} {P : Nat → α → Prop} : ∀ {n : Nat}, (∀ i, i < n → ∃ z, P i z) → ∃ l : List α, l.length = n ∧ ∀ i (h : i < l.length), P i l[i]
  | 0, _ => ⟨[], rfl, fun i h => absurd h (by simp)⟩
  | n + 1, h => by
    obtain ⟨l, hl, hp⟩ := list_of (n := n) (fun i hi => h i (by omega))
    obtain ⟨z, hz⟩ := h n (by omega)
    refine ⟨l ++ [z], by simp [hl], fun i hi => ?_⟩
    rcases Nat.lt_or_ge i l.length with h1 | h1
    · rw [List.getElem_append_left h1]
      exact hp i h1
    · have : i = n := by simp at hi; omega
      subst this
      rw [List.getElem_append_right (by omega)]
      simpa [hl] using hz
/-- What came in as a slice of steps reads as steps. -/
theorem steps_in {H : Type} {enc : TypeId × Value → H} {w : World} {base : Nat} {spare : Nat → Bool} {held : Bool} {fuel : Nat} {A : Option Addr} {n c : Nat} {x : DataW H × List MemPlace}
    (h : DataW.trod enc Tryd.prog w base spare held fuel 23 [.slice A n c] = some x) : n ≤ c ∧ c ≤ maxLen ∧ ∃ l : List (Int × Int), l.length = n ∧ StepsAt w A l := by
  rcases Deep.open_slice Tryd.underlying23 h with ⟨hcs, _⟩ | ⟨a, len, cap, m, n', D, Pl, hcs, _, hl, hm, hmm, _, hi⟩
  · simp only [List.cons.injEq, Value.slice.injEq, and_true] at hcs
    obtain ⟨rfl, rfl, rfl⟩ := hcs
    exact ⟨Nat.le_refl _, by simp [maxLen], [], rfl, fun i h => absurd h (by simp)⟩
  · simp only [List.cons.injEq, Value.slice.injEq, and_true] at hcs
    obtain ⟨rfl, rfl, rfl⟩ := hcs
    have hnm : n ≤ m := by rw [hmm]; split <;> omega
    have h2 : Tryd.prog.cellsOf 33 = 2 := by kernel_rfl
    have hsp : 0 < n → a.spot = none := fun h0 => by
      obtain ⟨cs', hc, ht⟩ := hi 0 (by omega)
      rw [h2] at hc
      obtain ⟨_, hcl, hat⟩ := World.cells?_some hc
      have q := hat 0 (by omega)
      rw [List.getElem?_eq_getElem (by omega)] at q
      have := World.cell?_spot q
      simpa [Addr.add] using this
    have each : ∀ i, i < n → ∃ z : Int × Int, ∃ b o, some a = some (⟨b, o, none⟩ : Addr) ∧ w.cell? ⟨b, o + i * 2, none⟩ = some (.int .i64 z.1) ∧ w.cell? ⟨b, o + i * 2 + 1, none⟩ = some (.int .i64 z.2) := fun i hin => by
      obtain ⟨cs', hc, ht⟩ := hi i (by omega)
      have ci : Tryd.prog.cellsOf 2 = 1 := by kernel_rfl
      have ci2 : Tryd.prog.cellsOf 3 = 1 := by kernel_rfl
      rw [h2] at hc
      obtain ⟨_, hcl, hat⟩ := World.cells?_some hc
      obtain ⟨y0, y1, n2, _, _, g0, g1⟩ := trod_struct2 Tryd.underlying33 ht
      obtain ⟨z0, e0, _, _⟩ := DataW.trod_int Tryd.underlying2 g0
      obtain ⟨z1, e1, _, _⟩ := DataW.trod_int Tryd.underlying3 g1
      match cs', hcl with
      | [u0, u1], _ =>
        have f0 : u0 = .int .i64 z0 := by simpa [ci] using e0
        have f1 : u1 = .int .i64 z1 := by simpa [ci2] using e1
        subst f0 f1
        have q0 := hat 0 (by omega)
        have q1 := hat 1 (by omega)
        obtain ⟨b, o, spot⟩ := a
        have hspot : spot = none := hsp (by omega)
        subst hspot
        refine ⟨(z0, z1), b, o, rfl, ?_, ?_⟩
        · have e : ((⟨b, o, none⟩ : Addr).add (i * 2)).add 0 = ⟨b, o + i * 2, none⟩ := by
            unfold Addr.add
            by_cases h0 : i * 2 = 0
            · simp [h0]
            · simp [h0]
          rw [e] at q0
          simpa using q0
        · have e : ((⟨b, o, none⟩ : Addr).add (i * 2)).add 1 = ⟨b, o + i * 2 + 1, none⟩ := by
            unfold Addr.add
            by_cases h0 : i * 2 = 0
            · simp [h0]
            · simp [h0]
          rw [e] at q1
          simpa using q1
    obtain ⟨l, hll, hlp⟩ := list_of each
    exact ⟨hl, hm, l, hll, fun i hil => hlp i hil⟩
end Go.Proofs.YthfnahcaoeggbaaDoor
