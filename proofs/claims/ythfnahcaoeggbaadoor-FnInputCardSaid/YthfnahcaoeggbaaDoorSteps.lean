/- Steps over the shop's own input, one behind the other. Conditions: lengths below 2^31. -/
import Derived.Test.YthfnahcaoeggbaaDoorStepA
import Derived.Test.YthfnahcaoeggbaaDoorScript
namespace Go.Proofs.YthfnahcaoeggbaaDoor
open Go.RowKit
set_option linter.unusedVariables false

/-- A row of what steps give, whose data lie in what was there before. -/
structure GotsT (w : World) (base : Nat) (A : Option Addr) (n c : Nat) (xs : List (Got × Option Addr × Nat)) : Prop where
  len : xs.length = n
  own : w.ownsRow base 36 3 (.slice A n c) n (xs.flatMap gcells)
  bs : ∀ x ∈ xs, BS w x.2.1 x.1.2.2
  far : ∀ x ∈ xs, 0 < x.1.2.2.length → ∀ k, blk x.2.1 = some k → k < base
section
variable {w w' : World} {base n c : Nat} {A : Option Addr} {xs : List (Got × Option Addr × Nat)}
theorem GotsT.empty (w : World) {base : Nat} (hb : base ≤ w.heap.size) : GotsT (w.alloc (.cells #[] 36)) base (some ⟨w.heap.size, 0, none⟩) 0 0 [] :=
  ⟨rfl, World.ownsRow_made w #[] 0 hb (by simp [maxLen]) rfl, fun x hx => absurd hx (by simp), fun x hx => absurd hx (by simp)⟩
theorem GotsT.lt (h : GotsT w base A n c xs) : ∀ k, blk A = some k → base ≤ k ∧ k < w.heap.size := row_lt h.own
theorem bs_far {w w' : World} {row : Option Nat} {B : Option Addr} {m : List UInt8} {base : Nat} (h : BS w B m) (hf : 0 < m.length → ∀ k, blk B = some k → k < base) (hg : w.grownBy w' row) (hr : ∀ k, row = some k → base ≤ k) : BS w' B m := by
  rcases Nat.eq_zero_or_pos m.length with h0 | h0
  · rw [List.eq_nil_of_length_eq_zero h0]
    exact BS.nil _ _
  · exact h.grown hg fun k hk e => by have := hf h0 k hk; have := hr k e; omega
theorem GotsT.grown {row : Option Nat} (h : GotsT w base A n c xs) (hg : w.grownBy w' row) (hr : ∀ k, row = some k → base ≤ k) (hne : ∀ k, blk A = some k → row ≠ some k) : GotsT w' base A n c xs :=
  ⟨h.len, row_kept h.own hg hne, fun x hx => bs_far (h.bs x hx) (h.far x hx) hg hr, h.far⟩
theorem GotsT.snoc (h : GotsT w base A n c xs) (hb : base ≤ w.heap.size) (x : Got × Option Addr × Nat) (hx : BS w x.2.1 x.1.2.2) (hfar : 0 < x.1.2.2.length → ∀ k, blk x.2.1 = some k → k < base) (hn : n ≤ 4294967295) (hsm : n ≤ 1000000) :
    ∃ A' c' w', (Builtin.append_ #[24, 24] 24 #[.slice A n c, .slice (some ⟨w.heap.size, 0, none⟩) 1 1]).run Tryd.prog (w.alloc (.cells (gcells x).toArray 36)) = .ok (.slice A' (n + 1) c') w' ∧
      GotsT w' base A' (n + 1) c' (xs ++ [x]) ∧ w.grownBy w' (blk A) ∧ (blk A' = blk A ∨ blk A' = some (w.heap.size + 1)) := by
  have hl := h.lt
  obtain ⟨A', c', w', hrun, hown, hg, hat⟩ := row_app (P := Tryd.prog) 24 36 Tryd.underlying24 got_info rfl (by omega) (h.own.alloc (.cells (gcells x).toArray 36)) (by simp; omega) w.heap.size 1 (by omega) (news := gcells x) rfl
    (fun j u hj => by rw [World.cell?_alloc_mark]; simpa using hj) (fun u hu => by simp [gcells] at hu; rcases hu with rfl | rfl | rfl <;> rfl) (by omega) (by omega)
  have hg' : w.grownBy w' (blk A) := (grown_alloc w _ (blk A)).trans hg
  have keep := fun (y : Got × Option Addr × Nat) (h1 : BS w y.2.1 y.1.2.2) (h2 : 0 < y.1.2.2.length → ∀ k, blk y.2.1 = some k → k < base) => bs_far h1 h2 hg' (fun k e => (hl k e).1)
  refine ⟨A', c', w', hrun, ⟨by simp [h.len], ?_, ?_, ?_⟩, hg', by simpa using hat⟩
  · rw [List.flatMap_append]
    simpa using hown
  · intro y hy
    rcases List.mem_append.1 hy with hy | hy
    · exact keep y (h.bs y hy) (h.far y hy)
    · rw [List.mem_singleton.1 hy]
      exact keep x hx hfar
  · intro y hy
    rcases List.mem_append.1 hy with hy | hy
    · exact h.far y hy
    · rw [List.mem_singleton.1 hy]
      exact hfar
end
theorem stepF_data {l : List UInt8} {pos start p s : Nat} {k n num oth : Int} {data : List UInt8} (h : stepF l pos start k n = some (p, s, num, oth, data)) (hd : 0 < data.length) : 0 < l.length := by
  rcases Nat.eq_zero_or_pos l.length with h0 | h0
  · exfalso
    obtain rfl := List.eq_nil_of_length_eq_zero h0
    rcases stepF_kind h with rfl | rfl | rfl | rfl | rfl | rfl | rfl | rfl | rfl | rfl | rfl | rfl | rfl
    all_goals first
      | rw [stepF_0] at h | rw [stepF_1] at h | rw [stepF_2] at h | rw [stepF_3] at h | rw [stepF_4] at h | rw [stepF_5] at h | rw [stepF_6] at h | rw [stepF_7] at h | rw [stepF_8] at h | rw [stepF_9] at h | rw [stepF_10] at h | rw [stepF_11] at h | rw [stepF_12] at h
    all_goals (try split at h)
    all_goals first
      | (cases h; done)
      | (simp [sel] at h
         obtain ⟨_, _, _, _, e⟩ := h
         subst e
         simp at hd)
  · exact h0
theorem Zin.grown {w w' : World} {r c pos start base : Nat} {A : Option Addr} {l : List UInt8} {row : Option Nat} (h : Zin w r A c l pos start) (hA : 0 < l.length → ∀ k, blk A = some k → k < base) (hg : w.grownBy w' row) (hr : ∀ k, row = some k → base ≤ k) (hne : row ≠ some r) : Zin w' r A c l pos start :=
  ⟨(hg.block r h.lt (fun e => hne e.symm)).trans h.row, bs_far h.bs hA hg hr, h.apart, h.room⟩
/-- What the steps return. -/
def SpecRet (l : List UInt8) (ss : List (Int × Int)) (w : World) (e : Ending) (w' : World) : Prop :=
  (∀ p s gs, runL l ss = some (p, s, gs) → ∃ A c xs, e = .returned (.tuple #[.slice A gs.length c, .bool true]) ∧ GotsT w' w.heap.size A gs.length c xs ∧ xs.map (·.1) = gs) ∧
  (runL l ss = none → e = .returned (.tuple #[.slice none 0 0, .bool false])) ∧ Below w.heap.size w w'
set_option maxHeartbeats 1000000 in
theorem steps_any (A : Option Addr) (l : List UInt8) (c : Nat) (B : Option Addr) (ss : List (Int × Int)) (d : Nat) (w : World) (bs : BS w A l) (hl : l.length ≤ 2147483647) (hc : l.length ≤ c) (hss : ss.length ≤ 1000) (hst : StepsAt w B ss) :
    Calls Tryd.prog 5 #[.slice A l.length c, .slice B ss.length d] w (SpecRet l ss w) := by
  have Hst := hide hst
  have hfarA : 0 < l.length → ∀ k, blk A = some k → k < w.heap.size := fun h0 k hk => by
    obtain ⟨b, o, e, hlt, _⟩ := bs.form h0
    rw [e] at hk
    injection hk with hk
    have hk : b = k := hk
    omega
  have HF := hide hfarA
  have hz : Zin (w.alloc (.cells #[.slice A l.length c, .int .i64 0, .int .i64 0] 40)) w.heap.size A c l 0 0 :=
    ⟨heap_alloc_new w _, bs.alloc _, fun h0 b o e => by have := hfarA h0 b (by rw [e]; rfl); omega, hc⟩
  have HZ := hide (hz.alloc (.cells #[] 36))
  have hg0 := GotsT.empty (base := w.heap.size) (w.alloc (.cells #[.slice A l.length c, .int .i64 0, .int .i64 0] 40)) (by simp)
  have e1 : (w.alloc (.cells #[.slice A l.length c, .int .i64 0, .int .i64 0] 40)).heap.size = w.heap.size + 1 := by simp
  rw [e1] at hg0
  have HG := hide hg0
  clear hst bs hz hg0 hfarA e1
  go_enter Tryd.func5, Tryd.ntmps5
  go_wp2
  go_loopw [7, 18] (fun o i wr => ∃ (k : Nat) (Ao : Option Addr) (n co : Nat) (xs : List (Got × Option Addr × Nat)) (pos start : Nat), k ≤ ss.length ∧ i = .int .i64 (k : Int) ∧ o = .slice Ao n co ∧ n = k ∧
      Hid (runL l (ss.take k) = some (pos, start, xs.map (·.1))) ∧ Hid (GotsT wr w.heap.size Ao n co xs) ∧ Hid (Zin wr w.heap.size A c l pos start) ∧ pos ≤ l.length ∧ start ≤ pos ∧ Hid (Below w.heap.size w wr) ∧ Hid (blk Ao ≠ some w.heap.size))
    (fun _ i _ => ss.length - (intOf i).toNat)
  case atStart =>
    refine ⟨0, _, 0, 0, [], 0, 0, Nat.zero_le _, rfl, rfl, rfl, hide rfl, HG, HZ, Nat.zero_le _, Nat.le_refl _, hide (((Below.refl _ _).alloc (Nat.le_refl _) _).alloc (by simp) _), hide ?_⟩
    intro e
    injection e with e
    have e : w.heap.size + 1 = w.heap.size := e
    omega
  case round =>
    obtain ⟨k, Ao, n, co, xs, pos, start, hk, rfl, rfl, rfl, hr, hgo, hin, hp, hs, hbel, hne⟩ := hrel
    by_cases hlt2 : n < ss.length
    · obtain ⟨b, o, rfl, s1, s2⟩ := (Hst.out.below (hbel.out.mono (Nat.le_refl _))) n hlt2
      cases hstep : stepF l pos start ss[n].1 ss[n].2 with
      | none =>
        have hnone : runL l ss = none := by
          have e1 : runL l (ss.take (n + 1)) = none := by rw [List.take_succ_eq_append_getElem hlt2, runL_snoc, hr.out]; simp [runStep, hstep]
          have := runL_none (ss.drop (n + 1)) e1
          rwa [List.take_append_drop] at this
        have Hnone := hide hnone
        have Hstep := hide hstep
        clear hnone hstep
        go_wp2_with fail
        refine (step_none _ c pos start A l _ _ _ (hin.out.alloc _) hl hp hs Hstep.out).mono ?_
        rintro e w3 ⟨rfl, _, hg3⟩
        have hB3 : Below w.heap.size w w3 := (hbel.out.alloc hbel.out.size (.cells #[.int .i64 ss[n].1, .int .i64 ss[n].2] 33)).grown hg3 (hbel.out.alloc hbel.out.size _).size (fun k e => by injection e with e; omega)
        have HB3 := hide hB3
        clear hB3 hg3
        unfold gotV
        go_wp2
        go_ret2
        exact ⟨fun p s gs e => (by rw [Hnone.out] at e; cases e), fun _ => rfl, HB3.out.alloc HB3.out.size _⟩
      | some y =>
        obtain ⟨p', s', num, oth, data⟩ := y
        have hr' : runL l (ss.take (n + 1)) = some (p', s', xs.map (·.1) ++ [(num, oth, data)]) := by
          rw [List.take_succ_eq_append_getElem hlt2, runL_snoc, hr.out]
          simp [runStep, hstep]
        have hin' := stepF_in hstep hp hs
        have Hr' := hide hr'
        have Hstep := hide hstep
        clear hr hr' hstep
        go_wp2_with fail
        refine (step_some _ c pos start A l _ _ _ p' s' num oth data (hin.out.alloc _) hl hp hs Hstep.out).mono ?_
        rintro e w3 ⟨A3, c3, rfl, hb3, hz3, hg3, hblk⟩
        have hsz3 := hg3.size
        replace hsz3 : wr.heap.size + 1 ≤ w3.heap.size := by simpa using hsz3
        have hgot3 := (hgo.out.grown (grown_alloc wr (.cells #[.int .i64 ss[n].1, .int .i64 ss[n].2] 33) none) (fun k e => by cases e) (fun k _ e => by cases e)).grown hg3 (fun k e => by injection e with e; omega) (fun k hk e => by injection e with e; exact hne.out (by rw [hk, e]))
        have hgot4 := hgot3.grown (grown_alloc w3 (.cells #[.int .i64 num, .int .i64 oth, .slice A3 data.length c3] 36) none) (fun k e => by cases e) (fun k _ e => by cases e)
        have hwsz := hbel.out.size
        have hfar3 : 0 < data.length → ∀ k, blk A3 = some k → k < w.heap.size := fun h0 k hk => HF.out (stepF_data Hstep.out h0) k (by rw [← hblk h0]; exact hk)
        obtain ⟨A5, c5, w5, hrunA, hgot5, hg5, hat5⟩ := hgot4.snoc (by simp; omega) ((num, oth, data), A3, c3) (hb3.alloc _) hfar3 (by omega) (by omega)
        have l4 := hgot4.lt
        have hne5 : blk A5 ≠ some w.heap.size := by
          intro e
          rcases hat5 with e2 | e2
          · exact hne.out (e2.symm.trans e)
          · rw [e] at e2
            injection e2 with e2
            simp at e2
            omega
        have HZ5 := hide ((hz3.alloc (.cells #[.int .i64 num, .int .i64 oth, .slice A3 data.length c3] 36)).grown HF.out hg5 (fun k e => (l4 k e).1) hne.out)
        have HB5 : Hid (Below w.heap.size w w5) := by
          have h1 := (hbel.out.alloc hbel.out.size (.cells #[.int .i64 ss[n].1, .int .i64 ss[n].2] 33))
          have h2 := h1.grown hg3 h1.size (fun k e => by injection e with e; omega)
          have h3 := h2.alloc h2.size (.cells #[.int .i64 num, .int .i64 oth, .slice A3 data.length c3] 36)
          exact hide (h3.grown hg5 h3.size (fun k e => (l4 k e).1))
        have Hrun5 : Hid ((Builtin.append_ #[24, 24] 24 #[.slice Ao n co, .slice (some ⟨w3.heap.size + 1, 0, none⟩) 1 1]).run Tryd.prog ((w3.alloc (.cells #[.int .i64 num, .int .i64 oth, .slice A3 data.length c3] 36)).alloc (.cells #[.int .i64 num, .int .i64 oth, .slice A3 data.length c3] 36)) = .ok (.slice A5 (n + 1) c5) w5) := by
          have e : (w3.alloc (.cells #[.int .i64 num, .int .i64 oth, .slice A3 data.length c3] 36)).heap.size = w3.heap.size + 1 := by simp
          rw [e] at hrunA
          exact hrunA
        have Hgot5 := hide hgot5
        have Hne5 := hide hne5
        clear hrunA hgot5 hgot4 hgot3 hg5 hat5 hb3 hz3 hg3 hblk hfar3 l4 hne5
        unfold gotV
        go_wp2_with (at_builtin; (with_reducible refine wpList_append_runG Hrun5.out _ _ ?_ rfl rfl ?_ ?_ ?_); (rfl); (rfl); (rfl))
        go_roundw
        case rel => exact ⟨n + 1, A5, n + 1, c5, _, p', s', by omega, by go_num, rfl, rfl, by simpa using Hr', Hgot5, HZ5, hin'.1, hin'.2, HB5, Hne5⟩
        case measure => simp [intOf]; omega
    · have hn : n = ss.length := by omega
      have e := hr.out
      rw [hn, List.take_length] at e
      have hx : xs.length = n := hgo.out.len
      have He := hide e
      have Hx := hide hx
      clear e hn hx
      go_wp2
      go_ret2
      refine ⟨fun p s gs e => ?_, fun e => (by rw [He.out] at e; cases e), hbel.out⟩
      rw [He.out] at e
      simp only [Option.some.injEq, Prod.mk.injEq] at e
      obtain ⟨_, _, rfl⟩ := e
      have e2 : (xs.map (·.1)).length = n := by rw [List.length_map]; exact Hx.out
      rw [e2]
      exact ⟨Ao, co, xs, rfl, hgo.out, rfl⟩
end Go.Proofs.YthfnahcaoeggbaaDoor
