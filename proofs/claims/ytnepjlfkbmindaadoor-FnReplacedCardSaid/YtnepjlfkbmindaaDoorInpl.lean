/- Writing in place: a shorter row of the same block; an append that fits; a store; a row out of a whole block. Conditions: lengths within the capacity. -/
import Derived.Test.YtnepjlfkbmindaaDoorWords
import Derived.StillTailTactics
namespace Go.Proofs.YtnepjlfkbmindaaDoor
open Go.RowKit
set_option linter.unusedVariables false

theorem OwnB.take {w : World} {base n c g : Nat} {l : List UInt8} (h : OwnB w base (some ⟨g, 0, none⟩) n c l) {k : Nat} (hk : k ≤ n) : OwnB w base (some ⟨g, 0, none⟩) k c (l.take k) := by
  obtain ⟨hl, hlen, hh⟩ := h
  refine ⟨by simp; omega, by simp; omega, ?_⟩
  rcases hh with ⟨e, _⟩ | ⟨g', cap, cur, e, hg, hw, h1, h2, h3, h4⟩
  · cases e
  · injection e with e1 e2 e3
    cases e1
    subst e3
    refine .inr ⟨g, c, cur, rfl, hg, hw, by omega, h2, h3, ?_⟩
    rw [List.map_take, ← h4, List.take_take]
    congr 1
    omega
theorem OwnB.set_ {w : World} {base n c g : Nat} {l : List UInt8} (h : OwnB w base (some ⟨g, 0, none⟩) n c l) (i : Nat) (x : UInt8) : OwnB (w.setCell ⟨g, i, none⟩ (.int .u8 (x.toNat : Int))) base (some ⟨g, 0, none⟩) n c (l.set i x) := by
  refine ⟨by simpa using h.1, ?_⟩
  have := (h.2.stored i (bv x)).1
  rwa [← List.map_set] at this
theorem OwnB.frz {w : World} {base n c g : Nat} {l : List UInt8} (h : OwnB w base (some ⟨g, 0, none⟩) n c l) (i : Nat) : w.frozen? ⟨g, i, none⟩ = false := h.2.frozenAt i
theorem OwnB.cellI {w : World} {base n c g : Nat} {l : List UInt8} (h : OwnB w base (some ⟨g, 0, none⟩) n c l) {i : Nat} {d : UInt8} (hd : l[i]? = some d) : w.cell? ⟨g, i, none⟩ = some (.int .u8 (d.toNat : Int)) := by
  obtain ⟨hl, _⟩ := List.getElem?_eq_some_iff.1 hd
  have := h.1
  rw [h.2.cellAt i (by omega)]
  simp [hd]
theorem OwnB.ofBlk {w : World} {base g : Nat} {l : List UInt8} (h : Blk8 w g l) (hb : base ≤ g) (hl : l.length ≤ maxLen) : OwnB w base (some ⟨g, 0, none⟩) l.length l.length l :=
  ⟨rfl, by simp, .inr ⟨g, l.length, (l.map bv).toArray, rfl, hb, h, Nat.le_refl _, hl, by simp, by simp [List.take_of_length_le]⟩⟩
theorem OwnB.base_le {w : World} {base n c g : Nat} {l : List UInt8} (h : OwnB w base (some ⟨g, 0, none⟩) n c l) : base ≤ g := h.blk_ge g rfl
/-- A part of the row as a slice. -/
theorem OwnB.part {w : World} {base n c g : Nat} {l : List UInt8} (h : OwnB w base (some ⟨g, 0, none⟩) n c l) (k m : Nat) : BS w (some ⟨g, k, none⟩) ((l.drop k).take m) := fun i hi => by
  have hi' : i < m ∧ k + i < l.length := by simp at hi; omega
  refine ⟨g, k, rfl, ?_⟩
  rw [h.cellI (d := l[k + i]) (List.getElem?_eq_getElem hi'.2)]
  simp
theorem OwnB.partD {w : World} {base n c g : Nat} {l : List UInt8} (h : OwnB w base (some ⟨g, 0, none⟩) n c l) (k : Nat) : BS w (some ⟨g, k, none⟩) (l.drop k) := by
  have := h.part k l.length
  rwa [List.take_of_length_le (by simp)] at this
/-- An append that fits into the row's own room: the row stays where it is. -/
theorem run_append_fits8 {w : World} {base n c g : Nat} {B : Option Addr} {l m : List UInt8} (own : OwnB w base (some ⟨g, 0, none⟩) n c l) (src : BS w B m) (k d : Nat) (hk : m.length = k) (hfit : n + k ≤ c) :
    ∃ w', (Builtin.append_ #[26, 26] 26 #[.slice (some ⟨g, 0, none⟩) n c, .slice B k d]).run Tryd.prog w = .ok (.slice (some ⟨g, 0, none⟩) (n + k) c) w' ∧ OwnB w' base (some ⟨g, 0, none⟩) (n + k) c (l ++ m) ∧ w.grownBy w' (some g) := by
  subst hk
  obtain ⟨i, hi, hz0, hz1, hz2⟩ := info_parts u8_info
  have hu := Tryd.underlying26
  rcases Nat.eq_zero_or_pos m.length with h0 | h0
  · have hm : m = [] := List.eq_nil_of_length_eq_zero h0
    subst hm
    refine ⟨w, ?_, by simpa using own, World.grownBy.refl w _⟩
    have hs : ∀ x : Addr, (loadCells x 0).run Tryd.prog w = .ok #[] w := fun x => by simpa using run_loadCells_list (P := Tryd.prog) w x [] (by simp)
    have hle := own.le.1
    rcases B with _ | b <;>
      simp [Builtin.append_, run_underlying hu, sizeOf, typeInfo, hi, Builtin.lenOf, Builtin.firstCells, hle, storeCells, hs]
  · obtain ⟨b, o, rfl, _, hc⟩ := src.form h0
    obtain ⟨w', hrun, hown, hg⟩ := run_append_fits (P := Tryd.prog) (w := w) base 26 26 5 i 1 hu hi hz1 g n c (l.map bv) own.2 ⟨b, o, none⟩ m.length d (m.map bv) (by simp)
      (fun j v hj => by
        obtain ⟨hj1, hj2⟩ := List.getElem?_eq_some_iff.1 hj
        have hj3 : j < m.length := by simpa using hj1
        have := hc j hj3
        have e : (⟨b, o, none⟩ : Addr).add j = ⟨b, o + j, none⟩ := by
          unfold Addr.add
          split
          · rename_i h0; subst h0; rfl
          · rfl
        rw [e, this, ← hj2]
        simp)
      (fun v hv => by obtain ⟨x, _, rfl⟩ := List.mem_map.1 hv; rfl) hfit
    rw [← List.map_append] at hown
    exact ⟨w', hrun, ⟨by rw [List.length_append, own.1], hown⟩, hg⟩
/-- 'b[:hi]'. -/
theorem run_hi8 {P : Program} {A : Option Addr} (T : TypeId) (hu : P.underlying T = some (.slice 5)) (hs : (P.info? 5).map (·.size) = some 1) (n c hi : Nat) (z : Int) (hz : z = (hi : Int)) (h : hi ≤ c) (k : IntKind) (w : World) :
    (Instr.sliceAt T (.slice A n c) none (some (.int k z)) none).run P w = .ok (.slice A hi c) w := by
  subst hz
  obtain ⟨i, hi', hsz⟩ := Option.map_eq_some_iff.1 hs
  have he : P.underlying T = some (.slice (P.elem T)) := by simp [Program.elem, hu]
  rw [run_sliceAt_slice (h := he)]
  have e : (if c = 0 then A else A.map (·.add 0)) = A := by cases A <;> simp [Addr.add]
  simp [Instr.slice, Instr.sliceBounds, Instr.sliceBound, asIntOf, run_underlying hu, sizeOf, typeInfo, hi', h]
  cases A <;> simp [Addr.add]
/-- 'b[lo:]' of a slice that reads as bytes. -/
theorem run_lo8 {P : Program} {w : World} {A : Option Addr} {l : List UInt8} (T : TypeId) (hu : P.underlying T = some (.slice 5)) (hs : (P.info? 5).map (·.size) = some 1) (h : BS w A l) (n c lo : Nat) (z : Int) (hz : z = (lo : Int)) (hl : l.length = n) (h1 : lo ≤ n) (h2 : n ≤ c) :
    ∃ A', (∀ (k : IntKind) (w' : World), (Instr.sliceAt T (.slice A n c) (some (.int k z)) none none).run P w' = .ok (.slice A' (n - lo) (c - lo)) w') ∧ BS w A' (l.drop lo) ∧ (A' = A ∨ ∃ b o, A = some ⟨b, o, none⟩ ∧ A' = some ⟨b, o + lo, none⟩) := by
  subst hz
  obtain ⟨i, hi', hsz⟩ := Option.map_eq_some_iff.1 hs
  have he : P.underlying T = some (.slice (P.elem T)) := by simp [Program.elem, hu]
  refine ⟨if c = lo then A else A.map (·.add lo), fun k w' => ?_, ?_, ?_⟩
  · rw [run_sliceAt_slice (h := he)]
    simp [Instr.slice, Instr.sliceBounds, Instr.sliceBound, asIntOf, run_underlying hu, sizeOf, typeInfo, hi', hsz, h1]
  · by_cases hc : c = lo
    · rw [if_pos hc, List.drop_of_length_le (by omega)]
      exact BS.nil _ _
    · rw [if_neg hc]
      rcases Nat.eq_zero_or_pos l.length with h0 | h0
      · obtain rfl : l = [] := List.eq_nil_of_length_eq_zero h0
        simpa using BS.nil _ _
      · obtain ⟨b, o, rfl, _, _⟩ := h.form h0
        have ea : (some (⟨b, o, none⟩ : Addr)).map (·.add lo) = some ⟨b, o + lo, none⟩ := by
          simp only [Option.map_some, Addr.add]
          split
          · rename_i hl0; subst hl0; rfl
          · rfl
        rw [ea]
        exact h.cut rfl lo
  · by_cases hc : c = lo
    · rw [if_pos hc]; exact .inl rfl
    · rw [if_neg hc]
      rcases A with _ | ⟨b, o, sp⟩
      · exact .inl rfl
      · rcases Nat.eq_zero_or_pos l.length with h0 | h0
        · rcases Nat.eq_zero_or_pos lo with hl0 | hl0
          · subst hl0; left; simp [Addr.add]
          · omega
        · obtain ⟨b', o', e, _, _⟩ := h.form h0
          injection e with e
          injection e with e1 e2 e3
          subst e1 e2 e3
          right
          refine ⟨b, o, rfl, ?_⟩
          simp only [Option.map_some, Addr.add]
          split
          · rename_i hl0; subst hl0; rfl
          · rfl
/-- 'b[lo:hi]' of a slice that reads as bytes, in whatever world. -/
theorem run_cutA {P : Program} {w : World} {A : Option Addr} {l : List UInt8} (T : TypeId) (hu : P.underlying T = some (.slice 5)) (hs : (P.info? 5).map (·.size) = some 1) (h : BS w A l)
    (n c lo hi : Nat) (zl zh : Int) (hzl : zl = (lo : Int)) (hzh : zh = (hi : Int)) (hn : l.length = n) (h1 : lo ≤ hi) (h2 : hi ≤ n) (h3 : n ≤ c) :
    ∃ A', (∀ (kl kh : IntKind) (w' : World), (Instr.sliceAt T (.slice A n c) (some (.int kl zl)) (some (.int kh zh)) none).run P w' = .ok (.slice A' (hi - lo) (c - lo)) w') ∧ BS w A' ((l.drop lo).take (hi - lo)) := by
  subst hzl hzh hn
  obtain ⟨i, hi', hsz⟩ := Option.map_eq_some_iff.1 hs
  have e2 : hi ≤ c := by omega
  have he : P.underlying T = some (.slice (P.elem T)) := by simp [Program.elem, hu]
  obtain ⟨A1, hr1, hb1, _⟩ := run_cut8 T hu hs h c lo hi h1 h2 h3
  refine ⟨A1, fun kl kh w' => ?_, hb1⟩
  have g1 := hr1 kl kh
  rw [run_sliceAt_slice (h := he)] at g1 ⊢
  simp [Instr.slice, Instr.sliceBounds, Instr.sliceBound, asIntOf, run_underlying hu, sizeOf, typeInfo, hi', hsz, h1, e2] at g1 ⊢
  exact g1
/-- A slice expression whose run is known, in a walk and in a region that only reads. -/
theorem wpList_slice_runO {P : Program} {ops : Array Oper} {rest : List Oper} {o : Oper} {a : Act} {w : World} {Q : Exit → Act → World → Prop} {vx v' : Value} {vl vh : Option Value} {T : TypeId}
    (hrun : (Instr.sliceAt T vx vl vh none).run P w = .ok v' w) (x : Operand) (lo hi : Option Operand) (hw : Region.wanted o (yielded ops a.tmps) = true)
    (ho : o.op = .slice T x lo hi none) (hx : a.eval x = vx) (hl : lo.map a.eval = vl) (hh : hi.map a.eval = vh)
    (h : wpList P ops Q rest (a.put o.dst v') w) : wpList P ops Q (o :: rest) a w := by
  refine wpList_step fun K hK => ?_
  rw [if_pos hw]
  subst hx hl hh
  unfold Oper.wp
  simp [execOp, ho, hrun, Result.andThen]
  exact hK _ _ h
theorem wpStill_slice_runO {P : Program} {ops : Array Oper} {rest : List Oper} {o : Oper} {a : Act} {w : World} {Q : Act → Prop} {vx v' : Value} {vl vh : Option Value} {T : TypeId}
    (hrun : (Instr.sliceAt T vx vl vh none).run P w = .ok v' w) (x : Operand) (lo hi : Option Operand) (hw : Region.wanted o (yielded ops a.tmps) = true)
    (ho : o.op = .slice T x lo hi none) (hx : a.eval x = vx) (hl : lo.map a.eval = vl) (hh : hi.map a.eval = vh)
    (h : wpStill P ops w Q rest (a.put o.dst v')) : wpStill P ops w Q (o :: rest) a := by
  refine wpStill_step fun K hK => ?_
  rw [if_pos hw]
  subst hx hl hh
  unfold Oper.still
  simp [execOp, ho, hrun]
  rw [Oper.stillUpon_value]
  exact hK _ h
end Go.Proofs.YtnepjlfkbmindaaDoor
