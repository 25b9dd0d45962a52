/- Steps over an input of a text, one behind the other, as the thin package takes them. Conditions: the steps may be taken; lengths below 2^31; io.EOF as laid. -/
import Derived.Test.YthfnahcaoeggbaaDoorRun
namespace Go.Proofs.YthfnahcaoeggbaaDoor
open Go.RowKit
set_option linter.unusedVariables false

theorem newInput_any (w0 w : World) (l : List UInt8) (n : Nat) (hn : l.length = n) (hl : n ≤ 2147483647) (hb : Blk8 w w0.heap.size l) (hB : Below w0.heap.size w0 w) :
    Calls Tryd.prog 10 #[.slice (some ⟨w0.heap.size, 0, none⟩) n n] w fun e w' => ∃ g A c, e = .returned (.pointer (some ⟨g, 0, none⟩)) ∧ w0.heap.size ≤ g ∧ Inp w' g A c l 0 0 ∧ Below w0.heap.size w0 w' := by
  rcases Nat.eq_zero_or_pos n with h0 | h0
  · subst h0
    obtain rfl : l = [] := List.eq_nil_of_length_eq_zero hn
    refine (newInput_none _ 0 w).mono ?_
    rintro e w' ⟨g, A, c, rfl, hg, hi, hb'⟩
    exact ⟨g, A, c, rfl, by have := hB.size; omega, hi, hB.trans (hb'.mono hB.size)⟩
  · have own : OwnB w w0.heap.size (some ⟨w0.heap.size, 0, none⟩) n n l := by
      subst hn
      exact OwnB.ofBlk hb (Nat.le_refl _) (by unfold maxLen; omega)
    exact newInput_some w0.heap.size n l w0 w hn h0 hl own hB

/-- The cells of what a step gives; its address and room stand beside it. -/
def gcells (x : Got × Option Addr × Nat) : List Value := [.int .i64 x.1.1, .int .i64 x.1.2.1, .slice x.2.1 x.1.2.2.length x.2.2]
/-- A row of what steps give. -/
structure Gots (w : World) (base : Nat) (A : Option Addr) (n c : Nat) (xs : List (Got × Option Addr × Nat)) : Prop where
  len : xs.length = n
  own : w.ownsRow base 36 3 (.slice A n c) n (xs.flatMap gcells)
  bs : ∀ x ∈ xs, BS w x.2.1 x.1.2.2
  new : ∀ x ∈ xs, 0 < x.1.2.2.length → ∀ b o, x.2.1 = some ⟨b, o, none⟩ → base ≤ b ∧ blk A ≠ some b
theorem flat_len (xs : List (Got × Option Addr × Nat)) : (xs.flatMap gcells).length = xs.length * 3 := by
  induction xs with
  | nil => rfl
  | cons x r ih => rw [List.flatMap_cons, List.length_append, ih, List.length_cons, Nat.add_mul]; simp [gcells]; omega
theorem got_info : (Tryd.prog.info? 36).map (fun i => (i.zero, i.size, i.bytes)) = some (some (.agg #[.int .i64 0, .int .i64 0, .slice none 0 0]), 3, 40) := by kernel_rfl
section
variable {w w' : World} {base n c : Nat} {A : Option Addr} {xs : List (Got × Option Addr × Nat)}
theorem Gots.empty (w : World) {base : Nat} (hb : base ≤ w.heap.size) : Gots (w.alloc (.cells #[] 36)) base (some ⟨w.heap.size, 0, none⟩) 0 0 [] :=
  ⟨rfl, World.ownsRow_made w #[] 0 hb (by simp [maxLen]) rfl, fun x hx => absurd hx (by simp), fun x hx => absurd hx (by simp)⟩
theorem Gots.lt (h : Gots w base A n c xs) : ∀ k, blk A = some k → base ≤ k ∧ k < w.heap.size := fun k hk => h.own.lt k (by rw [ownBlock_blk]; exact hk)
theorem Gots.grown {row : Option Nat} (h : Gots w base A n c xs) (hg : w.grownBy w' row) (hr : ∀ k, row = some k → k < base) : Gots w' base A n c xs := by
  refine ⟨h.len, h.own.kept hg ?_, fun x hx => ?_, h.new⟩
  · rw [ownBlock_blk]
    cases hA : blk A with
    | none => exact .inl rfl
    | some k => exact .inr (fun e => by have := (h.lt k hA).1; have := hr k e.symm; omega)
  · rcases Nat.eq_zero_or_pos x.1.2.2.length with h0 | h0
    · rw [List.eq_nil_of_length_eq_zero h0]
      exact BS.nil _ _
    · refine (h.bs x hx).grown hg fun k hk e => ?_
      obtain ⟨b, o, eb, _, _⟩ := (h.bs x hx).form h0
      have := (h.new x hx h0 b o eb).1
      rw [eb] at hk
      injection hk with hk
      have hk : b = k := hk
      have := hr k e
      omega
theorem Gots.more {base' : Nat} (h : Gots w base A n c xs) (hb : base' ≤ base) : Gots w base' A n c xs := by
  refine ⟨h.len, ⟨h.own.1, ?_⟩, h.bs, fun x hx h0 b o e => ⟨Nat.le_trans hb (h.new x hx h0 b o e).1, (h.new x hx h0 b o e).2⟩⟩
  rcases h.own.2 with h1 | ⟨g, cap, cur, h1, h2, h3⟩
  · exact .inl h1
  · exact .inr ⟨g, cap, cur, h1, Nat.le_trans hb h2, h3⟩
/-- One more behind it. -/
theorem Gots.snoc (h : Gots w base A n c xs) (hb : base ≤ w.heap.size) (x : Got × Option Addr × Nat) (hx : BS w x.2.1 x.1.2.2) (hnew : 0 < x.1.2.2.length → ∀ b o, x.2.1 = some ⟨b, o, none⟩ → base ≤ b ∧ blk A ≠ some b) (hn : n ≤ 4294967296) :
    ∃ A' c' w', (Builtin.append_ #[24, 24] 24 #[.slice A n c, .slice (some ⟨w.heap.size, 0, none⟩) 1 1]).run Tryd.prog (w.alloc (.cells (gcells x).toArray 36)) = .ok (.slice A' (n + 1) c') w' ∧
      Gots w' base A' (n + 1) c' (xs ++ [x]) ∧ w.grownBy w' (blk A) := by
  obtain ⟨i, hi, hz0, hz1, hz2⟩ := info_parts got_info
  have ho := h.own.alloc (.cells (gcells x).toArray 36)
  obtain ⟨v', w', hrun, hown, hg, _, hat⟩ := run_append_own_at (P := Tryd.prog) (w.alloc (.cells (gcells x).toArray 36)) base 24 24 36 i (.agg #[.int .i64 0, .int .i64 0, .slice none 0 0]) 3 40 Tryd.underlying24 hi hz0 hz1 hz2 rfl (by omega) (.slice A n c) n (xs.flatMap gcells) ho ⟨w.heap.size, 0, none⟩ 1 1 (gcells x) rfl
    (fun j v hj => by
      have e : (⟨w.heap.size, 0, none⟩ : Addr).add j = ⟨w.heap.size, j, none⟩ := by
        unfold Addr.add
        split
        · rename_i h0; subst h0; rfl
        · simp
      rw [e, World.cell?_alloc_mark]
      simpa using hj)
    (fun v hv => by
      simp [gcells] at hv
      rcases hv with rfl | rfl | rfl <;> rfl) (by simp [maxLen]; omega) (by omega) (by simp; omega)
  have form : ∃ A' c', v' = .slice A' (n + 1) c' := by
    rcases hown.2 with ⟨e, hn⟩ | ⟨g, cap, cur, e, _⟩
    · omega
    · exact ⟨_, _, e⟩
  obtain ⟨A', c', rfl⟩ := form
  have hg0 : w.grownBy w' (blk A) := by
    rw [ownBlock_blk] at hg
    exact (grown_alloc w _ (blk A)).trans hg
  have hat' : blk A' = blk A ∨ blk A' = some (w.heap.size + 1) := by
    rw [ownBlock_blk, ownBlock_blk] at hat
    rcases hat with e | e
    · exact .inl e
    · right
      simpa using e
  refine ⟨A', c', w', hrun, ⟨by simp [h.len], ?_, ?_, ?_⟩, hg0⟩
  · rw [List.flatMap_append]
    simpa using hown
  · intro y hy
    have old : ∀ y : Got × Option Addr × Nat, BS w y.2.1 y.1.2.2 → (0 < y.1.2.2.length → ∀ b o, y.2.1 = some ⟨b, o, none⟩ → base ≤ b ∧ blk A ≠ some b) → BS w' y.2.1 y.1.2.2 := fun y h1 h2 => by
      rcases Nat.eq_zero_or_pos y.1.2.2.length with h0 | h0
      · rw [List.eq_nil_of_length_eq_zero h0]
        exact BS.nil _ _
      · refine h1.grown hg0 fun k hk e => ?_
        obtain ⟨b, o, eb, _, _⟩ := h1.form h0
        have := (h2 h0 b o eb).2
        rw [eb] at hk
        injection hk with hk
        have hk : b = k := hk
        subst hk
        exact this e
    rcases List.mem_append.1 hy with hy | hy
    · exact old y (h.bs y hy) (h.new y hy)
    · rw [List.mem_singleton.1 hy]
      exact old x hx hnew
  · intro y hy h0 b o eb
    have hbs : BS w y.2.1 y.1.2.2 := by
      rcases List.mem_append.1 hy with hy | hy
      · exact h.bs y hy
      · rw [List.mem_singleton.1 hy]
        exact hx
    have hold : base ≤ b ∧ blk A ≠ some b := by
      rcases List.mem_append.1 hy with hy | hy
      · exact h.new y hy h0 b o eb
      · rw [List.mem_singleton.1 hy] at h0 eb
        exact hnew h0 b o eb
    refine ⟨hold.1, fun e => ?_⟩
    rcases hat' with e' | e'
    · exact hold.2 (e'.symm.trans e)
    · rw [e'] at e
      injection e with e
      obtain ⟨b', o', eb', hlt, _⟩ := hbs.form h0
      rw [eb] at eb'
      injection eb' with eb'
      injection eb' with e1 _ _
      omega
end
/-- The slice reads as steps. -/
def StepsAt (w : World) (A : Option Addr) (ss : List (Int × Int)) : Prop := ∀ i (h : i < ss.length), ∃ b o, A = some ⟨b, o, none⟩ ∧ w.cell? ⟨b, o + i * 2, none⟩ = some (.int .i64 ss[i].1) ∧ w.cell? ⟨b, o + i * 2 + 1, none⟩ = some (.int .i64 ss[i].2)
theorem StepsAt.below {w w' : World} {A : Option Addr} {ss : List (Int × Int)} (h : StepsAt w A ss) (hb : Below w.heap.size w w') : StepsAt w' A ss := fun i hi => by
  obtain ⟨b, o, e, h1, h2⟩ := h i hi
  exact ⟨b, o, e, (hb.cell (block_lt_of_cell h1)).trans h1, (hb.cell (block_lt_of_cell h2)).trans h2⟩
theorem icopy_any (A : Option Addr) (l : List UInt8) (c : Nat) (w : World) (h : BS w A l) (hl : l.length ≤ 2147483647) :
    Calls Tryd.prog 11 #[.slice A l.length c] w fun e w' =>
      e = .returned (.slice (some ⟨w.heap.size, 0, none⟩) l.length l.length) ∧ Blk8 w' w.heap.size l ∧ Below w.heap.size w w' := by
  go_enter Tryd.func11, Tryd.ntmps11
  go_wp2_with fail
  refine (copy_any _ _ _ _ h hl).mono ?_
  rintro e w1 ⟨rfl, hb1, hB1⟩
  go_wp2
  go_ret
  exact ⟨rfl, hb1, hB1⟩
theorem run_next {l : List UInt8} {ss : List (Int × Int)} {n pos start : Nat} {gs0 : List Got} {r : Nat × Nat × List Got} (hr : runL l (ss.take n) = some (pos, start, gs0)) (hn : n < ss.length) (hrun : runL l ss = some r) :
    ∃ p' s' num oth data, stepF l pos start ss[n].1 ss[n].2 = some (p', s', num, oth, data) ∧ runL l (ss.take (n + 1)) = some (p', s', gs0 ++ [(num, oth, data)]) := by
  have e1 : runL l (ss.take (n + 1)) = runStep l (some (pos, start, gs0)) ss[n] := by rw [List.take_succ_eq_append_getElem hn, runL_snoc, hr]
  cases h : stepF l pos start ss[n].1 ss[n].2 with
  | none =>
    have e2 : runL l (ss.take (n + 1)) = none := by rw [e1]; simp [runStep, h]
    have e3 := runL_none (ss.drop (n + 1)) e2
    rw [List.take_append_drop, hrun] at e3
    cases e3
  | some y =>
    obtain ⟨p', s', num, oth, data⟩ := y
    exact ⟨p', s', num, oth, data, rfl, by rw [e1]; simp [runStep, h]⟩
/-- What the script gives. -/
def ScriptRet (gs : List Got) (w : World) (e : Ending) (w' : World) : Prop := ∃ A c xs, e = .returned (.slice A gs.length c) ∧ Gots w' w.heap.size A gs.length c xs ∧ xs.map (·.1) = gs ∧ Below w.heap.size w w'
set_option maxHeartbeats 1000000 in
theorem script_any (A : Option Addr) (l : List UInt8) (c : Nat) (B : Option Addr) (ss : List (Int × Int)) (d : Nat) (w : World) (p s : Nat) (gs : List Got) (bs : BS w A l) (hl : l.length ≤ 2147483647) (hss : ss.length ≤ 2147483647) (hst : StepsAt w B ss) (he : EofIs w) (hrun : runL l ss = some (p, s, gs)) :
    Calls Tryd.prog 7 #[.slice A l.length c, .slice B ss.length d] w (ScriptRet gs w) := by
  have Hst := hide hst
  have He := hide he
  have Hrun := hide hrun
  clear hst he hrun
  go_enter Tryd.func7, Tryd.ntmps7
  go_wp2_with fail
  refine (icopy_any _ _ _ _ bs hl).mono ?_
  rintro e w1 ⟨rfl, hb1, hB1⟩
  go_wp2_with fail
  refine (newInput_any w w1 l l.length rfl hl hb1 hB1).mono ?_
  rintro e w2 ⟨g, A1, c1, rfl, hg, hin, hB2⟩
  have hgots : Gots (w2.alloc (.cells #[] 36)) w2.heap.size (some ⟨w2.heap.size, 0, none⟩) 0 0 [] := Gots.empty w2 (Nat.le_refl _)
  have Hin := hide (hin.alloc (.cells #[] 36))
  have hlt := hin.lt
  have HA := hide hin.adr
  have HB2 := hide hB2
  have Hg := hide hgots
  clear hb1 hB1 hin hB2 hgots bs
  go_wp2
  go_loopw [6, 15] (fun o i wr => ∃ (k : Nat) (Ao : Option Addr) (n co : Nat) (xs : List (Got × Option Addr × Nat)) (pos start : Nat), k ≤ ss.length ∧ i = .int .i64 (k : Int) ∧ o = .slice Ao n co ∧ n = k ∧
      Hid (runL l (ss.take k) = some (pos, start, xs.map (·.1))) ∧ Hid (Gots wr w2.heap.size Ao n co xs) ∧ Hid (Inp wr g A1 c1 l pos start) ∧ pos ≤ l.length ∧ start ≤ pos ∧ Hid (Below w.heap.size w wr) ∧ w2.heap.size ≤ wr.heap.size)
    (fun _ i _ => ss.length - (intOf i).toNat)
  case atStart => exact ⟨0, _, 0, 0, [], 0, 0, Nat.zero_le _, rfl, rfl, rfl, hide rfl, Hg, Hin, Nat.zero_le _, Nat.le_refl _, hide (HB2.out.alloc HB2.out.size _), by simp⟩
  case round =>
    obtain ⟨k, Ao, n, co, xs, pos, start, hk, rfl, rfl, rfl, hr, hgo, hin, hp, hs, hbel, hsz⟩ := hrel
    by_cases hlt2 : n < ss.length
    · obtain ⟨b, o, rfl, s1, s2⟩ := (Hst.out.below (hbel.out.mono (Nat.le_refl _))) n hlt2
      obtain ⟨p', s', num, oth, data, hstep, hr'⟩ := run_next hr.out hlt2 Hrun.out
      have hin' := stepF_in hstep hp hs
      have Hr' := hide hr'
      clear hr hr'
      go_wp2_with fail
      refine (take_any g c1 pos start A1 l _ _ _ p' s' num oth data (hin.out.alloc _) hl hp hs ((He.out.below (hbel.out.mono (Nat.le_refl _))).below ((Below.refl _ _).alloc (Nat.le_refl _) _)) hstep).mono ?_
      rintro e w3 ⟨A3, c3, rfl, hb3, hin3, hg3, hnew3⟩
      have hsz3 := hg3.size
      replace hsz3 : wr.heap.size + 1 ≤ w3.heap.size := by simpa using hsz3
      have hgot3 := (hgo.out.grown (grown_alloc wr _ none) (fun k e => by cases e)).grown hg3 (fun k e => by injection e with e; omega)
      obtain ⟨A4, c4, w4, hrunA, hgot4, hg4⟩ := hgot3.snoc (by omega) ((num, oth, data), A3, c3) hb3 (fun h0 b' o' e => by
        have h1 := hnew3 h0 b' o' e
        replace h1 : wr.heap.size + 1 ≤ b' := by simpa using h1
        refine ⟨by omega, fun e2 => ?_⟩
        have := (hgo.out.lt b' e2).2
        omega) (by omega)
      have Hrun4 : Hid ((Builtin.append_ #[24, 24] 24 #[.slice Ao n co, .slice (some ⟨w3.heap.size, 0, none⟩) 1 1]).run Tryd.prog (w3.alloc (.cells #[.int .i64 num, .int .i64 oth, .slice A3 data.length c3] 36)) = .ok (.slice A4 (n + 1) c4) w4) := hrunA
      have Hgot4 := hide hgot4
      have Hin4 : Hid (Inp w4 g A1 c1 l p' s') := by
        have hlt4 := fun k hk => (hgot3.lt k hk).1
        refine hide ⟨(hg4.block g (by have := hin3.lt; omega) (fun e => by have := hlt4 g e.symm; omega)).trans hin3.row, ?_, hin3.apart, hin3.room⟩
        refine hin3.bs.grown hg4 fun k hk e => ?_
        have h1 := hlt4 k e
        cases hA1 : A1 with
        | none => rw [hA1] at hk; cases hk
        | some ad =>
          obtain ⟨b', o', e', _, _⟩ := hin3.bs.form (by simp)
          rw [e'] at hk
          injection hk with hk
          have hk : b' = k := hk
          have := HA.out b' o' e'
          omega
      have HB4 : Hid (Below w.heap.size w w4) := by
        have h1 := (hbel.out.alloc hbel.out.size (.cells #[.int .i64 ss[n].1, .int .i64 ss[n].2] 33))
        have h2 := h1.grown hg3 h1.size (fun k e => by injection e with e; omega)
        have h3 := hgot3.lt
        exact hide (h2.grown hg4 h2.size (fun k e => by have := h3 k e; have := HB2.out.size; omega))
      have hsz4 := hg4.size
      clear hrunA hgot4 hgot3 hg4 hb3 hin3 hg3 hnew3 hstep
      go_wp2_with (at_builtin; (with_reducible refine wpList_append_runG Hrun4.out _ _ ?_ rfl rfl ?_ ?_ ?_); (rfl); (rfl); (rfl))
      go_roundw
      case rel => exact ⟨n + 1, A4, n + 1, c4, _, p', s', by omega, by go_num, rfl, rfl, by simpa using Hr', Hgot4, Hin4, hin'.1, hin'.2, HB4, by omega⟩
      case measure => simp [intOf]; omega
    · have hn : n = ss.length := by omega
      have e := hr.out
      rw [hn, List.take_length, Hrun.out] at e
      simp only [Option.some.injEq, Prod.mk.injEq] at e
      obtain ⟨e1, e2, e3⟩ := e
      have hx : gs.length = n := by rw [e3, List.length_map, hgo.out.len]
      have Hx := hide hx
      have He3 := hide e3
      clear e1 e2 e3 hn hx
      go_wp2
      go_ret
      refine ⟨Ao, co, xs, by rw [Hx.out]; rfl, ?_, He3.out.symm, hbel.out⟩
      rw [Hx.out]
      exact hgo.out.more HB2.out.size
end Go.Proofs.YthfnahcaoeggbaaDoor
