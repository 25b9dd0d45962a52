/- The shop's own input over a text: its look. Conditions: places within the text, lengths below 2^31. -/
import Derived.Laws.ResultCell
import Derived.Test.YthfnahcaoeggbaaDoorRun
import Derived.Test.YthfnahcaoeggbaaDoorRow
namespace Go.Proofs.YthfnahcaoeggbaaDoor
open Go.RowKit
set_option linter.unusedVariables false

/-- The shop's input at block r: its text lies at A, its selection goes from start to pos. -/
structure Zin (w : World) (r : Nat) (A : Option Addr) (c : Nat) (l : List UInt8) (pos start : Nat) : Prop where
  row : w.heap[r]? = some (.cells #[.slice A l.length c, .int .i64 (start : Int), .int .i64 (pos : Int)] 40 (0, 0))
  bs : BS w A l
  apart : 0 < l.length → ∀ b o, A = some ⟨b, o, none⟩ → b ≠ r
  room : l.length ≤ c
section
variable {w w' : World} {r c pos start : Nat} {A : Option Addr} {l : List UInt8}
theorem Zin.lt (h : Zin w r A c l pos start) : r < w.heap.size := (Array.getElem?_eq_some_iff.1 h.row).1
theorem Zin.c0 (h : Zin w r A c l pos start) : w.cell? ⟨r, 0, none⟩ = some (.slice A l.length c) := by simp [World.cell?, h.row]
theorem Zin.c1 (h : Zin w r A c l pos start) : w.cell? ⟨r, 1, none⟩ = some (.int .i64 (start : Int)) := by simp [World.cell?, h.row]
theorem Zin.c2 (h : Zin w r A c l pos start) : w.cell? ⟨r, 2, none⟩ = some (.int .i64 (pos : Int)) := by simp [World.cell?, h.row]
theorem Zin.fr (h : Zin w r A c l pos start) (i : Nat) : w.frozen? ⟨r, i, none⟩ = false := by simp [World.frozen?, h.row]
theorem Zin.below (h : Zin w r A c l pos start) (hb : Below w.heap.size w w') : Zin w' r A c l pos start := ⟨(hb.block r h.lt).trans h.row, h.bs.below hb, h.apart, h.room⟩
theorem Zin.drewN (h : Zin w r A c l pos start) (n : Nat) : Zin (w.drewN n) r A c l pos start := ⟨h.row, h.bs, h.apart, h.room⟩
theorem Zin.alloc (h : Zin w r A c l pos start) (o : Obj) : Zin (w.alloc o) r A c l pos start := h.below ((Below.refl _ _).alloc (Nat.le_refl _) o)
theorem Zin.far (h : Zin w r A c l pos start) (i : Nat) (v : Value) : BS (w.setCell ⟨r, i, none⟩ v) A l := by
  rcases Nat.eq_zero_or_pos l.length with h0 | h0
  · rw [List.eq_nil_of_length_eq_zero h0]
    exact BS.nil _ _
  · exact h.bs.far (fun b o e => h.apart h0 b o e) _
theorem Zin.setPos (h : Zin w r A c l pos start) (p : Nat) : Zin (w.setCell ⟨r, 2, none⟩ (.int .i64 (p : Int))) r A c l p start := by
  refine ⟨?_, h.far _ _, h.apart, h.room⟩
  have := h.row
  simp [World.setCell, Array.getElem?_modify, this]
theorem Zin.setStart (h : Zin w r A c l pos start) (p : Nat) : Zin (w.setCell ⟨r, 1, none⟩ (.int .i64 (p : Int))) r A c l pos p := by
  refine ⟨?_, h.far _ _, h.apart, h.room⟩
  have := h.row
  simp [World.setCell, Array.getElem?_modify, this]
theorem Zin.setRow {s : Nat} (h : Zin w r A c l pos start) (hs : s ≠ r) (hA : 0 < l.length → ∀ b o, A = some ⟨b, o, none⟩ → b ≠ s) (V : Array Value) : Zin (w.setRow s V) r A c l pos start := by
  refine ⟨(setRow_other w s r V (fun e => hs e.symm)).trans h.row, ?_, h.apart, h.room⟩
  rcases Nat.eq_zero_or_pos l.length with h0 | h0
  · rw [List.eq_nil_of_length_eq_zero h0]
    exact BS.nil _ _
  · exact h.bs.setRow (hA h0) V
end
theorem inside_any (r c pos start : Nat) (A : Option Addr) (l : List UInt8) (w : World) (n : Int) (h : Zin w r A c l pos start) (hl : l.length ≤ 2147483647) (hp : pos ≤ l.length) :
    Calls Tryd.prog 14 #[.pointer (some ⟨r, 0, none⟩), .int .i64 n] w fun e w' => e = .returned (.bool (isIn l pos n)) ∧ ∃ m, w' = w.drewN m := by
  have c0 := h.c0
  have c2 := h.c2
  have t1 : IntKind.i64.wrap ((l.length : Int) - (pos : Int)) = (l.length : Int) - (pos : Int) := IntWalk.i64_in _ (by omega)
  clear h
  by_cases k0 : (0 : Int) ≤ n
  · by_cases k1 : n ≤ (l.length : Int) - (pos : Int)
    · have d1 : decide (n ≤ (l.length : Int) - (pos : Int)) = true := decide_eq_true k1
      go_enter Tryd.func14, Tryd.ntmps14
      go_wp2
      go_quiet (fail)
      clear t1
      go_wp2
      go_ret
      exact ⟨by unfold isIn; simp [k0, k1], _, rfl⟩
    · have d1 : decide (n ≤ (l.length : Int) - (pos : Int)) = false := decide_eq_false k1
      go_enter Tryd.func14, Tryd.ntmps14
      go_wp2
      go_quiet (fail)
      clear t1
      go_wp2
      go_ret
      exact ⟨by unfold isIn; simp [k0, k1], _, rfl⟩
  · have d0 : decide ((0 : Int) ≤ n) = false := decide_eq_false k0
    go_enter Tryd.func14, Tryd.ntmps14
    go_wp2
    go_quiet (fail)
    clear t1
    go_wp2
    go_ret
    exact ⟨by unfold isIn; rw [decide_eq_false (by omega)]; rfl, _, rfl⟩
theorem isIn_nat {l : List UInt8} {pos k : Nat} (h : pos + k ≤ l.length) : isIn l pos (k : Int) = true := decide_eq_true (by omega)
theorem inside_yes (r c pos start : Nat) (A : Option Addr) (l : List UInt8) (w : World) (k : Nat) (h : Zin w r A c l pos start) (hl : l.length ≤ 2147483647) (hp : pos ≤ l.length) (hk : pos + k ≤ l.length) :
    Calls Tryd.prog 14 #[.pointer (some ⟨r, 0, none⟩), .int .i64 (k : Int)] w fun e w' => e = .returned (.bool true) ∧ ∃ m, w' = w.drewN m := by
  have := inside_any r c pos start A l w k h hl hp
  rwa [isIn_nat hk] at this
theorem inside_no (r c pos start : Nat) (A : Option Addr) (l : List UInt8) (w : World) (n : Int) (h : Zin w r A c l pos start) (hl : l.length ≤ 2147483647) (hp : pos ≤ l.length) (hk : isIn l pos n = false) :
    Calls Tryd.prog 14 #[.pointer (some ⟨r, 0, none⟩), .int .i64 n] w fun e w' => e = .returned (.bool false) ∧ ∃ m, w' = w.drewN m := by
  have := inside_any r c pos start A l w n h hl hp
  rwa [hk] at this
/-- What a step of the shop's input gives and leaves; and a step that may not be taken. -/
def StepRet (r : Nat) (A : Option Addr) (c : Nat) (l : List UInt8) (p s : Nat) (num oth : Int) (data : List UInt8) (w : World) (e : Ending) (w' : World) : Prop :=
  ∃ A' c', e = .returned (.tuple #[.agg (gotV num oth A' data.length c'), .bool true]) ∧ BS w' A' data ∧ Zin w' r A c l p s ∧ w.grownBy w' (some r) ∧ (0 < data.length → blk A' = blk A)
def StepBad (r : Nat) (A : Option Addr) (c : Nat) (l : List UInt8) (w : World) (e : Ending) (w' : World) : Prop := e = .returned (.tuple #[.agg (gotV 0 0 none 0 0), .bool false]) ∧ (∃ p s, Zin w' r A c l p s) ∧ w.grownBy w' (some r)
theorem Zin.adr {w : World} {r c pos start : Nat} {A : Option Addr} {l : List UInt8} (h : Zin w r A c l pos start) (hne : 0 < l.length) : ∀ b o, A = some ⟨b, o, none⟩ → b < w.heap.size := fun b o e => by
  obtain ⟨b', o', e', hlt, _⟩ := h.bs.form hne
  rw [e] at e'
  injection e' with e'
  injection e' with e1 _ _
  omega
theorem zin_fin {w w1 : World} {r c p s : Nat} {A : Option Addr} {l : List UInt8} (o : Obj) (hlt : r < w.heap.size) (hA : 0 < l.length → ∀ b o, A = some ⟨b, o, none⟩ → b < w.heap.size) (h1 : Zin w1 r A c l p s) (hg : ((w.alloc o).alloc res0).grownBy w1 (some r)) :
    GotAt w1 (w.heap.size + 1) got0 ∧ ∀ V, Zin (w1.setRow (w.heap.size + 1) V) r A c l p s ∧ w.grownBy (w1.setRow (w.heap.size + 1) V) (some r) := by
  have hw : w.grownBy w1 (some r) := ((grown_alloc w o (some r)).trans (grown_alloc _ res0 (some r))).trans hg
  refine ⟨(hg.block _ (by simp) (fun e => by injection e with e; omega)).trans (two_at w o), fun V => ⟨h1.setRow (by omega) (fun h0 b o' e => by have := hA h0 b o' e; omega) V, grown_setRow hw (by omega) V⟩⟩
/-- What stands behind the first call of a step: the input, the step's block and the result's block, in whatever world. -/
theorem stp_behind {w w1 : World} {r c pos start : Nat} {A : Option Addr} {l : List UInt8} (kind n : Int) (hlt : r < w.heap.size) (h : Zin ((w.alloc (stp kind n)).alloc res0) r A c l pos start) {m : Nat} (hm : w1 = ((w.alloc (stp kind n)).alloc res0).drewN m) :
    Zin w1 r A c l pos start ∧ ((w.alloc (stp kind n)).alloc res0).grownBy w1 (some r) ∧ w1.cell? ⟨w.heap.size, 0, none⟩ = some (.int .i64 kind) ∧ w1.cell? ⟨w.heap.size, 1, none⟩ = some (.int .i64 n) ∧ w.heap.size + 2 ≤ w1.heap.size := by
  subst hm
  have e : (((w.alloc (stp kind n)).alloc res0).drewN m).heap[w.heap.size]? = some (stp kind n) := by
    show ((w.heap.push (stp kind n)).push res0)[w.heap.size]? = _
    rw [Array.getElem?_push, if_neg (by simp), Array.getElem?_push, if_pos rfl]
  refine ⟨h.drewN m, grown_drewN _ m _, ?_, ?_, ?_⟩
  · unfold World.cell?
    rw [e]
    rfl
  · unfold World.cell?
    rw [e]
    rfl
  · show _ ≤ ((w.heap.push (stp kind n)).push res0).size
    simp
/-- The end of a step whose region draws and stores by itself. -/
theorem zin_fin2 {w : World} {r c p s : Nat} {A : Option Addr} {l : List UInt8} (o : Obj) (V : Array Value) (h : Zin w r A c l p s) :
    GotAt ((w.alloc o).alloc (.cells V 36)).drew (w.heap.size + 1) V ∧ Zin ((w.alloc o).alloc (.cells V 36)).drew r A c l p s ∧ w.grownBy ((w.alloc o).alloc (.cells V 36)).drew (some r) := by
  refine ⟨?_, ((h.alloc o).alloc _).drewN 1, ((grown_alloc w o (some r)).trans (grown_alloc _ _ (some r))).trans (grown_drewN _ 1 _)⟩
  show ((w.heap.push o).push (.cells V 36))[w.heap.size + 1]? = _
  rw [Array.getElem?_push, if_pos (by simp)]
theorem results_row_tmp {P : Program} {fn : Func} {p u : Tmp} {ty : TypeId} (h : fn.results = #[.cell p ty, .tmp u]) (tmps : Array Value) (w : World) (g : Nat) (t : TypeId) (cs : Array Value) (fr : Nat × Nat) (d : TypeDesc) (b : Value) (hb : tmps.getD u undef = b)
    (hp : tmps.getD p undef = .pointer (some ⟨g, 0, none⟩)) (hg : w.heap[g]? = some (.cells cs t fr))
    (hu : P.underlying ty = some d) (hd : (match d with | .struct _ | .array _ _ => true | _ => false) = true) (hi : (P.info? ty).map (·.size) = some cs.size) :
    (results fn tmps).run P w = .ok (.tuple #[.agg cs, b]) w := by
  subst hb
  rw [results_cell_tmp h, hp]
  simp only [asAddr, Sem.run_pure, Result.andThen, run_loadVar_row w g t ty cs fr d hg hu hd hi]
end Go.Proofs.YthfnahcaoeggbaaDoor
