/- A step over the package's input, as the thin package takes it. Conditions: the step may be taken; lengths below 2^31; io.EOF as laid. (printed by gen_take.py) -/
import Derived.LaidEql
import Derived.Test.YthfnahcaoeggbaaDoorInp3
namespace Go.Proofs.YthfnahcaoeggbaaDoor
open Go.RowKit
set_option linter.unusedVariables false

/-- A store whose run is known, in a walk. -/
theorem wpList_store_run {P : Program} {ops : Array Oper} {rest : List Oper} {o : Oper} {a : Act} {w w' : World} {Q : Exit → Act → World → Prop} {t : TypeId} {vp vx : Value}
    (hrun : (Instr.storeAt t vp vx).run P w = .ok () w') (p x : Operand) (hw : Region.wanted o (yielded ops a.tmps) = true) (ho : o.op = .store t p x) (hp : a.eval p = vp) (hx : a.eval x = vx)
    (h : wpList P ops Q rest (a.put o.dst undef) w') : wpList P ops Q (o :: rest) a w := by
  refine wpList_step fun K hK => ?_
  rw [if_pos hw]
  subst hp hx
  unfold Oper.wp execOp
  simp only [ho, Sem.run_bind, Sem.run_pure, Result.andThen_ok, hrun]
  exact hK _ _ h
/-- What a step gives. -/
def gotV (num oth : Int) (A : Option Addr) (n c : Nat) : Array Value := #[.int .i64 num, .int .i64 oth, .slice A n c]
def got0 : Array Value := gotV 0 0 none 0 0
theorem info36 : (Tryd.prog.info? 36).map (·.size) = some 3 := by kernel_rfl
def GotAt (w : World) (s : Nat) (V : Array Value) : Prop := w.heap[s]? = some (.cells V 36 (0, 0))
theorem run_st36 {w : World} {s : Nat} {V : Array Value} (h : GotAt w s V) (hV : V.size = 3) (num oth : Int) (A : Option Addr) (n c : Nat) :
    (Instr.storeAt 36 (.pointer (some ⟨s, 0, none⟩)) (.agg (gotV num oth A n c))).run Tryd.prog w = .ok () (w.setRow s (gotV num oth A n c)) := by
  simp only [Instr.storeAt, Instr.sureAddr, Sem.run_bind, Sem.run_pure, Result.andThen]
  exact run_storeVar_row w s 36 36 V _ h info36 (by rw [hV]; rfl) (by simp [gotV, Value.oneCell'])
theorem GotAt.set {w : World} {s : Nat} {V V' : Array Value} (h : GotAt w s V) : GotAt (w.setRow s V') s V' := by
  unfold GotAt at h ⊢
  simp [World.setRow, Array.getElem?_modify, h]
theorem grown_setRow {w : World} {a : World} {g s : Nat} (hg : a.grownBy w (some g)) (hs : a.heap.size ≤ s) (V : Array Value) : a.grownBy (w.setRow s V) (some g) :=
  ⟨hg.os, hg.tape, hg.output, by simpa [World.setRow] using hg.size, fun i hi hne => (setRow_other w s i V (by omega)).trans (hg.block i hi hne)⟩
theorem BS.setRow {w : World} {A : Option Addr} {l : List UInt8} {s : Nat} (h : BS w A l) (hA : ∀ b o, A = some ⟨b, o, none⟩ → b ≠ s) (V : Array Value) : BS (w.setRow s V) A l := fun i hi => by
  obtain ⟨b, o, e, hc⟩ := h i hi
  refine ⟨b, o, e, ?_⟩
  rw [← hc]
  unfold World.cell?
  rw [setRow_other w s b V (hA b o e)]
theorem Inp.setRow {w : World} {g c pos start s : Nat} {A : Option Addr} {l : List UInt8} (h : Inp w g A c l pos start) (hs : s ≠ g) (hA : ∀ b o, A = some ⟨b, o, none⟩ → b ≠ s) (V : Array Value) : Inp (w.setRow s V) g A c l pos start :=
  ⟨(setRow_other w s g V (fun e => hs e.symm)).trans h.row, h.bs.setRow hA V, h.apart, h.room⟩

/-- What a step gives and leaves. -/
def TakeRet (g : Nat) (A : Option Addr) (c : Nat) (l : List UInt8) (p s : Nat) (num oth : Int) (data : List UInt8) (w : World) (e : Ending) (w' : World) : Prop :=
  ∃ A' c', e = .returned (.agg #[.int .i64 num, .int .i64 oth, .slice A' data.length c']) ∧ BS w' A' data ∧ Inp w' g A c l p s ∧ w.grownBy w' (some g) ∧ (0 < data.length → ∀ b o, A' = some ⟨b, o, none⟩ → w.heap.size ≤ b)

theorem Inp.alloc {w : World} {g c pos start : Nat} {A : Option Addr} {l : List UInt8} (h : Inp w g A c l pos start) (o : Obj) : Inp (w.alloc o) g A c l pos start := h.below ((Below.refl _ _).alloc (Nat.le_refl _) o)
theorem grown_alloc (w : World) (o : Obj) (row : Option Nat) : w.grownBy (w.alloc o) row := ⟨rfl, rfl, rfl, by simp, fun i hi _ => Below.heap_alloc w o i hi⟩
theorem Inp.adr {w : World} {g c pos start : Nat} {A : Option Addr} {l : List UInt8} (h : Inp w g A c l pos start) : ∀ b o, A = some ⟨b, o, none⟩ → b < w.heap.size := fun b o e => by
  obtain ⟨b', o', e', hlt, _⟩ := h.bs.form (by simp)
  rw [e] at e'
  injection e' with e'
  injection e' with e1 _ _
  omega
theorem copy_n (A : Option Addr) (l : List UInt8) (c n : Nat) (w : World) (hn : l.length = n) (h : BS w A l) (hl : n ≤ 2147483647) :
    Calls Tryd.prog 17 #[.slice A n c] w fun e w' =>
      e = .returned (.slice (some ⟨w.heap.size, 0, none⟩) n n) ∧ Blk8 w' w.heap.size l ∧ Below w.heap.size w w' := by
  subst hn
  exact copy_any A l c w h hl
/-- The two blocks that a step makes first. -/
def stp (kind n : Int) : Obj := .cells #[.int .i64 kind, .int .i64 n] 33
def res0 : Obj := .cells got0 36
theorem two_at (w : World) (o : Obj) : GotAt ((w.alloc o).alloc res0) (w.heap.size + 1) got0 := by
  have e : ((w.alloc o).alloc res0).heap = (w.heap.push o).push res0 := rfl
  unfold GotAt
  rw [e, Array.getElem?_push, if_pos (by simp)]
  rfl
/-- An operation of two operands whose run is known, in a region that draws and only reads. -/
theorem quiet_bin {P : Program} {o : Oper} {a : Act} {C : World → Prop} {K : Act → Prop} (b : BinOp) (t t' : TypeId) (x y : Operand) (vx vy v : Value) (ho : o.op = .binOp b t x y t') (hx : a.eval x = vx) (hy : a.eval y = vy) (hg : eqGuard b t x y vx vy = pure ())
    (hrun : ∀ w, (binOp b t vx vy).run P w = .ok v w) (hk : K (a.put o.dst v)) : o.quiet P a C K :=
  ⟨v, fun w _ => by
    unfold Oper.quietAt execOp
    subst hx hy
    simp only [ho, hg, Sem.run_bind, Sem.run_pure, Result.andThen_ok, hrun]
    exact ⟨rfl, rfl⟩, hk⟩
theorem err49 : Tryd.prog.underlying 49 = some (.interface #[("Error", 61)]) := by kernel_rfl
/-- The end of a step: what stands in the result's block behind it. -/
theorem take_fin {w w1 : World} {g c p s : Nat} {A : Option Addr} {l : List UInt8} (o : Obj) (hlt : g < w.heap.size) (hA : ∀ b o, A = some ⟨b, o, none⟩ → b < w.heap.size) (h1 : Inp w1 g A c l p s) (hg : ((w.alloc o).alloc res0).grownBy w1 (some g)) :
    GotAt w1 (w.heap.size + 1) got0 ∧ ∀ V, Inp (w1.setRow (w.heap.size + 1) V) g A c l p s ∧ w.grownBy (w1.setRow (w.heap.size + 1) V) (some g) := by
  have hw : w.grownBy w1 (some g) := ((grown_alloc w o (some g)).trans (grown_alloc _ res0 (some g))).trans hg
  refine ⟨(hg.block _ (by simp) (fun e => by injection e with e; omega)).trans (two_at w o), fun V => ⟨h1.setRow (by omega) (fun b o' e => by have := hA b o' e; omega) V, grown_setRow hw (by omega) V⟩⟩

set_option maxHeartbeats 1000000 in
theorem take_0 (g c pos start : Nat) (A : Option Addr) (l : List UInt8) (w : World) (k : Nat) (x : UInt8) (h : Inp w g A c l pos start) (hl : l.length ≤ 2147483647) (hp : pos ≤ l.length) (hs : start ≤ pos) (hx : (l ++ [0])[pos + k]? = some x) :
    Calls Tryd.prog 12 #[.pointer (some ⟨g, 0, none⟩), .agg #[.int .i64 0, .int .i64 (k : Int)]] w (TakeRet g A c l (pos) (start) ((x.toNat : Int)) (0) ([]) w) := by
  have h2 := (h.alloc (stp 0 (k : Int))).alloc res0
  have hlt := h.lt
  have hA := h.adr
  unfold stp res0 got0 gotV at h2
  have H2 := hide h2
  have HA := hide hA
  clear h h2 hA
  go_enter Tryd.func12, Tryd.ntmps12
  have Hx := hide hx
  have hx256 := x.toNat_lt
  clear hx
  go_wp2_with fail
  refine (peek_any g c pos start A l _ k x H2.out hl Hx.out).mono ?_
  rintro e w1 ⟨rfl, rfl⟩
  have fin := take_fin (stp 0 (k : Int)) hlt HA.out H2.out (World.grownBy.refl _ _)
  have st := run_st36 fin.1 rfl ((x.toNat : Int)) (0) none 0 0
  unfold gotV at st
  have Fin := hide fin
  have Hst := hide st
  clear fin st
  go_wp2_with ((with_reducible refine wpList_store_run Hst.out _ _ ?_ rfl ?_ ?_ ?_); (rfl); (rfl); (rfl))
  refine bodyPost_ret (v := .agg (gotV ((x.toNat : Int)) (0) none 0 0)) (results_cell_row rfl _ _ (w.heap.size + 1) _ _ (0, 0) _ rfl (Fin.out.1.set) Tryd.underlying36 rfl info36) rfl ?_
  exact ⟨_, _, rfl, BS.nil _ _, (Fin.out.2 _).1, (Fin.out.2 _).2, fun hz => absurd hz (by simp)⟩

set_option maxHeartbeats 1000000 in
theorem take_1 (g c pos start : Nat) (A : Option Addr) (l : List UInt8) (w : World) (k : Nat) (x : UInt8) (h : Inp w g A c l pos start) (hl : l.length ≤ 2147483647) (hp : pos ≤ l.length) (hs : start ≤ pos) (hx : l[pos + k]? = some x) (h128 : x.toNat < 128) :
    Calls Tryd.prog 12 #[.pointer (some ⟨g, 0, none⟩), .agg #[.int .i64 1, .int .i64 (k : Int)]] w (TakeRet g A c l (pos) (start) ((x.toNat : Int)) (1) ([]) w) := by
  have h2 := (h.alloc (stp 1 (k : Int))).alloc res0
  have hlt := h.lt
  have hA := h.adr
  unfold stp res0 got0 gotV at h2
  have H2 := hide h2
  have HA := hide hA
  clear h h2 hA
  go_enter Tryd.func12, Tryd.ntmps12
  have Hx := hide hx
  clear hx
  go_wp2_with fail
  refine (peekRune_any g c pos start A l _ k x H2.out hl Hx.out h128).mono ?_
  rintro e w1 ⟨rfl, m, rfl⟩
  have fin := take_fin (stp 1 (k : Int)) hlt HA.out (H2.out.drewN m) (grown_drewN _ m _)
  have st := run_st36 fin.1 rfl ((x.toNat : Int)) (1) none 0 0
  unfold gotV at st
  have Fin := hide fin
  have Hst := hide st
  clear fin st
  go_wp2_with ((with_reducible refine wpList_store_run Hst.out _ _ ?_ rfl ?_ ?_ ?_); (rfl); (rfl); (rfl))
  refine bodyPost_ret (v := .agg (gotV ((x.toNat : Int)) (1) none 0 0)) (results_cell_row rfl _ _ (w.heap.size + 1) _ _ (0, 0) _ rfl (Fin.out.1.set) Tryd.underlying36 rfl info36) rfl ?_
  exact ⟨_, _, rfl, BS.nil _ _, (Fin.out.2 _).1, (Fin.out.2 _).2, fun hz => absurd hz (by simp)⟩

set_option maxHeartbeats 1000000 in
theorem take_2 (g c pos start : Nat) (A : Option Addr) (l : List UInt8) (w : World) (k : Nat) (h : Inp w g A c l pos start) (hl : l.length ≤ 2147483647) (hp : pos ≤ l.length) (hs : start ≤ pos) (hk : k ≤ l.length) :
    Calls Tryd.prog 12 #[.pointer (some ⟨g, 0, none⟩), .agg #[.int .i64 2, .int .i64 (k : Int)]] w (TakeRet g A c l (pos + k) (start) (0) (0) ([]) w) := by
  have h2 := (h.alloc (stp 2 (k : Int))).alloc res0
  have hlt := h.lt
  have hA := h.adr
  unfold stp res0 got0 gotV at h2
  have H2 := hide h2
  have HA := hide hA
  clear h h2 hA
  go_enter Tryd.func12, Tryd.ntmps12
  go_wp2_with fail
  refine (move_any g c pos start A l _ k H2.out hl hp (by omega)).mono ?_
  rintro e w1 ⟨rfl, h1, hg1⟩
  have fin := take_fin (stp 2 (k : Int)) hlt HA.out h1 hg1
  have st := run_st36 fin.1 rfl (0) (0) none 0 0
  unfold gotV at st
  have Fin := hide fin
  have Hst := hide st
  clear fin st
  go_wp2_with ((with_reducible refine wpList_store_run Hst.out _ _ ?_ rfl ?_ ?_ ?_); (rfl); (rfl); (rfl))
  refine bodyPost_ret (v := .agg (gotV (0) (0) none 0 0)) (results_cell_row rfl _ _ (w.heap.size + 1) _ _ (0, 0) _ rfl (Fin.out.1.set) Tryd.underlying36 rfl info36) rfl ?_
  exact ⟨_, _, rfl, BS.nil _ _, (Fin.out.2 _).1, (Fin.out.2 _).2, fun hz => absurd hz (by simp)⟩

set_option maxHeartbeats 1000000 in
theorem take_3 (g c pos start : Nat) (A : Option Addr) (l : List UInt8) (w : World) (n : Int) (x : UInt8) (h : Inp w g A c l pos start) (hl : l.length ≤ 2147483647) (hp : pos ≤ l.length) (hs : start ≤ pos) (hx : l[pos]? = some x) (h128 : x.toNat < 128) :
    Calls Tryd.prog 12 #[.pointer (some ⟨g, 0, none⟩), .agg #[.int .i64 3, .int .i64 n]] w (TakeRet g A c l (pos + 1) (start) (0) (0) ([]) w) := by
  have h2 := (h.alloc (stp 3 n)).alloc res0
  have hlt := h.lt
  have hA := h.adr
  unfold stp res0 got0 gotV at h2
  have H2 := hide h2
  have HA := hide hA
  clear h h2 hA
  go_enter Tryd.func12, Tryd.ntmps12
  have Hx := hide hx
  clear hx
  go_wp2_with fail
  refine (moveRune_any g c pos start A l _ x H2.out hl Hx.out h128).mono ?_
  rintro e w1 ⟨rfl, h1, hg1⟩
  have fin := take_fin (stp 3 n) hlt HA.out h1 hg1
  have st := run_st36 fin.1 rfl (0) (0) none 0 0
  unfold gotV at st
  have Fin := hide fin
  have Hst := hide st
  clear fin st
  go_wp2_with ((with_reducible refine wpList_store_run Hst.out _ _ ?_ rfl ?_ ?_ ?_); (rfl); (rfl); (rfl))
  refine bodyPost_ret (v := .agg (gotV (0) (0) none 0 0)) (results_cell_row rfl _ _ (w.heap.size + 1) _ _ (0, 0) _ rfl (Fin.out.1.set) Tryd.underlying36 rfl info36) rfl ?_
  exact ⟨_, _, rfl, BS.nil _ _, (Fin.out.2 _).1, (Fin.out.2 _).2, fun hz => absurd hz (by simp)⟩

set_option maxHeartbeats 1000000 in
theorem take_4 (g c pos start : Nat) (A : Option Addr) (l : List UInt8) (w : World) (n : Int) (h : Inp w g A c l pos start) (hl : l.length ≤ 2147483647) (hp : pos ≤ l.length) (hs : start ≤ pos) :
    Calls Tryd.prog 12 #[.pointer (some ⟨g, 0, none⟩), .agg #[.int .i64 4, .int .i64 n]] w (TakeRet g A c l (pos) (pos) (0) (0) (sel l start pos) w) := by
  have h2 := (h.alloc (stp 4 n)).alloc res0
  have hlt := h.lt
  have hA := h.adr
  unfold stp res0 got0 gotV at h2
  have H2 := hide h2
  have HA := hide hA
  clear h h2 hA
  go_enter Tryd.func12, Tryd.ntmps12
  go_wp2_with fail
  refine (shift_any g c pos start A l _ H2.out hl hp hs).mono ?_
  rintro e w1 ⟨⟨A1, c1, rfl, hb1⟩, h1, hg1⟩
  go_wp2_with (first
    | (go_at_call 17; ((with_reducible refine (copy_n _ _ _ _ _ (sel_len hp) hb1 (by omega)).mono ?_); rintro e w2 ⟨rfl, hb2, hB2⟩); have fin := take_fin (stp 4 n) hlt HA.out (h1.below hB2) (hg1.trans (grown_of_below hB2 _)); have st := run_st36 fin.1 rfl (0) (0) (some ⟨w1.heap.size, 0, none⟩) (pos - start) (pos - start); unfold gotV at st; have Fin := hide fin; have Hst := hide st; clear fin st)
    | ((with_reducible refine wpList_store_run Hst.out _ _ ?_ rfl ?_ ?_ ?_); (rfl); (rfl); (rfl))
    | go_in)
  refine bodyPost_ret (v := .agg (gotV (0) (0) (some ⟨w1.heap.size, 0, none⟩) (pos - start) (pos - start))) (results_cell_row rfl _ _ (w.heap.size + 1) _ _ (0, 0) _ rfl (Fin.out.1.set) Tryd.underlying36 rfl info36) rfl ?_
  exact ⟨_, _, by rw [sel_len hp]; rfl, hb2.all.setRow (fun b o e => by injection e with e; injection e with e1 _ _; have := hg1.size; simp at this; omega) _, (Fin.out.2 _).1, (Fin.out.2 _).2, fun _ b o e => by injection e with e; injection e with e1 _ _; have := hg1.size; simp at this; omega⟩

set_option maxHeartbeats 1000000 in
theorem take_5 (g c pos start : Nat) (A : Option Addr) (l : List UInt8) (w : World) (n : Int) (h : Inp w g A c l pos start) (hl : l.length ≤ 2147483647) (hp : pos ≤ l.length) (hs : start ≤ pos) :
    Calls Tryd.prog 12 #[.pointer (some ⟨g, 0, none⟩), .agg #[.int .i64 5, .int .i64 n]] w (TakeRet g A c l (pos) (pos) (0) (0) ([]) w) := by
  have h2 := (h.alloc (stp 5 n)).alloc res0
  have hlt := h.lt
  have hA := h.adr
  unfold stp res0 got0 gotV at h2
  have H2 := hide h2
  have HA := hide hA
  clear h h2 hA
  go_enter Tryd.func12, Tryd.ntmps12
  go_wp2_with fail
  refine (skip_any g c pos start A l _ H2.out).mono ?_
  rintro e w1 ⟨rfl, h1, hg1⟩
  have fin := take_fin (stp 5 n) hlt HA.out h1 hg1
  have st := run_st36 fin.1 rfl (0) (0) none 0 0
  unfold gotV at st
  have Fin := hide fin
  have Hst := hide st
  clear fin st
  go_wp2_with ((with_reducible refine wpList_store_run Hst.out _ _ ?_ rfl ?_ ?_ ?_); (rfl); (rfl); (rfl))
  refine bodyPost_ret (v := .agg (gotV (0) (0) none 0 0)) (results_cell_row rfl _ _ (w.heap.size + 1) _ _ (0, 0) _ rfl (Fin.out.1.set) Tryd.underlying36 rfl info36) rfl ?_
  exact ⟨_, _, rfl, BS.nil _ _, (Fin.out.2 _).1, (Fin.out.2 _).2, fun hz => absurd hz (by simp)⟩

set_option maxHeartbeats 1000000 in
theorem take_6 (g c pos start : Nat) (A : Option Addr) (l : List UInt8) (w : World) (n : Int) (h : Inp w g A c l pos start) (hl : l.length ≤ 2147483647) (hp : pos ≤ l.length) (hs : start ≤ pos) :
    Calls Tryd.prog 12 #[.pointer (some ⟨g, 0, none⟩), .agg #[.int .i64 6, .int .i64 n]] w (TakeRet g A c l (pos) (start) (0) (0) (sel l start pos) w) := by
  have h2 := (h.alloc (stp 6 n)).alloc res0
  have hlt := h.lt
  have hA := h.adr
  unfold stp res0 got0 gotV at h2
  have H2 := hide h2
  have HA := hide hA
  clear h h2 hA
  go_enter Tryd.func12, Tryd.ntmps12
  go_wp2_with fail
  refine (lexeme_any g c pos start A l _ H2.out hl hp hs).mono ?_
  rintro e w1 ⟨⟨A1, c1, rfl, hb1⟩, hd⟩
  have hg1 : ((w.alloc (stp 6 n)).alloc res0).grownBy w1 (some g) := by obtain ⟨m, hm⟩ := hd; rw [hm]; exact grown_drewN _ m _
  have h1 : Inp w1 g A c l pos start := by obtain ⟨m, hm⟩ := hd; rw [hm]; exact H2.out.drewN m
  replace hb1 : BS w1 A1 (sel l start pos) := by obtain ⟨m, hm⟩ := hd; rw [hm]; exact hb1
  clear hd
  go_wp2_with (first
    | (go_at_call 17; ((with_reducible refine (copy_n _ _ _ _ _ (sel_len hp) hb1 (by omega)).mono ?_); rintro e w2 ⟨rfl, hb2, hB2⟩); have fin := take_fin (stp 6 n) hlt HA.out (h1.below hB2) (hg1.trans (grown_of_below hB2 _)); have st := run_st36 fin.1 rfl (0) (0) (some ⟨w1.heap.size, 0, none⟩) (pos - start) (pos - start); unfold gotV at st; have Fin := hide fin; have Hst := hide st; clear fin st)
    | ((with_reducible refine wpList_store_run Hst.out _ _ ?_ rfl ?_ ?_ ?_); (rfl); (rfl); (rfl))
    | go_in)
  refine bodyPost_ret (v := .agg (gotV (0) (0) (some ⟨w1.heap.size, 0, none⟩) (pos - start) (pos - start))) (results_cell_row rfl _ _ (w.heap.size + 1) _ _ (0, 0) _ rfl (Fin.out.1.set) Tryd.underlying36 rfl info36) rfl ?_
  exact ⟨_, _, by rw [sel_len hp]; rfl, hb2.all.setRow (fun b o e => by injection e with e; injection e with e1 _ _; have := hg1.size; simp at this; omega) _, (Fin.out.2 _).1, (Fin.out.2 _).2, fun _ b o e => by injection e with e; injection e with e1 _ _; have := hg1.size; simp at this; omega⟩

set_option maxHeartbeats 1000000 in
theorem take_7 (g c pos start : Nat) (A : Option Addr) (l : List UInt8) (w : World) (n : Int) (h : Inp w g A c l pos start) (hl : l.length ≤ 2147483647) (hp : pos ≤ l.length) (hs : start ≤ pos) :
    Calls Tryd.prog 12 #[.pointer (some ⟨g, 0, none⟩), .agg #[.int .i64 7, .int .i64 n]] w (TakeRet g A c l (pos) (start) ((pos : Int) - (start : Int)) (0) ([]) w) := by
  have h2 := (h.alloc (stp 7 n)).alloc res0
  have hlt := h.lt
  have hA := h.adr
  unfold stp res0 got0 gotV at h2
  have H2 := hide h2
  have HA := hide hA
  clear h h2 hA
  go_enter Tryd.func12, Tryd.ntmps12
  go_wp2_with fail
  refine (pos_any g c pos start A l _ H2.out hl hp hs).mono ?_
  rintro e w1 ⟨rfl, m, rfl⟩
  have fin := take_fin (stp 7 n) hlt HA.out (H2.out.drewN m) (grown_drewN _ m _)
  have st := run_st36 fin.1 rfl ((pos : Int) - (start : Int)) (0) none 0 0
  unfold gotV at st
  have Fin := hide fin
  have Hst := hide st
  clear fin st
  go_wp2_with ((with_reducible refine wpList_store_run Hst.out _ _ ?_ rfl ?_ ?_ ?_); (rfl); (rfl); (rfl))
  refine bodyPost_ret (v := .agg (gotV ((pos : Int) - (start : Int)) (0) none 0 0)) (results_cell_row rfl _ _ (w.heap.size + 1) _ _ (0, 0) _ rfl (Fin.out.1.set) Tryd.underlying36 rfl info36) rfl ?_
  exact ⟨_, _, rfl, BS.nil _ _, (Fin.out.2 _).1, (Fin.out.2 _).2, fun hz => absurd hz (by simp)⟩

set_option maxHeartbeats 1000000 in
theorem take_8 (g c pos start : Nat) (A : Option Addr) (l : List UInt8) (w : World) (k : Nat) (h : Inp w g A c l pos start) (hl : l.length ≤ 2147483647) (hp : pos ≤ l.length) (hs : start ≤ pos) (hk : start + k ≤ l.length) :
    Calls Tryd.prog 12 #[.pointer (some ⟨g, 0, none⟩), .agg #[.int .i64 8, .int .i64 (k : Int)]] w (TakeRet g A c l (start + k) (start) (0) (0) ([]) w) := by
  have h2 := (h.alloc (stp 8 (k : Int))).alloc res0
  have hlt := h.lt
  have hA := h.adr
  unfold stp res0 got0 gotV at h2
  have H2 := hide h2
  have HA := hide hA
  clear h h2 hA
  go_enter Tryd.func12, Tryd.ntmps12
  go_wp2_with fail
  refine (rewind_any g c pos start A l _ k H2.out hl hk).mono ?_
  rintro e w1 ⟨rfl, h1, hg1⟩
  have fin := take_fin (stp 8 (k : Int)) hlt HA.out h1 hg1
  have st := run_st36 fin.1 rfl (0) (0) none 0 0
  unfold gotV at st
  have Fin := hide fin
  have Hst := hide st
  clear fin st
  go_wp2_with ((with_reducible refine wpList_store_run Hst.out _ _ ?_ rfl ?_ ?_ ?_); (rfl); (rfl); (rfl))
  refine bodyPost_ret (v := .agg (gotV (0) (0) none 0 0)) (results_cell_row rfl _ _ (w.heap.size + 1) _ _ (0, 0) _ rfl (Fin.out.1.set) Tryd.underlying36 rfl info36) rfl ?_
  exact ⟨_, _, rfl, BS.nil _ _, (Fin.out.2 _).1, (Fin.out.2 _).2, fun hz => absurd hz (by simp)⟩

set_option maxHeartbeats 1000000 in
theorem take_9 (g c pos start : Nat) (A : Option Addr) (l : List UInt8) (w : World) (n : Int) (h : Inp w g A c l pos start) (hl : l.length ≤ 2147483647) (hp : pos ≤ l.length) (hs : start ≤ pos) :
    Calls Tryd.prog 12 #[.pointer (some ⟨g, 0, none⟩), .agg #[.int .i64 9, .int .i64 n]] w (TakeRet g A c l (pos) (start) ((pos : Int)) (0) ([]) w) := by
  have h2 := (h.alloc (stp 9 n)).alloc res0
  have hlt := h.lt
  have hA := h.adr
  unfold stp res0 got0 gotV at h2
  have H2 := hide h2
  have HA := hide hA
  clear h h2 hA
  go_enter Tryd.func12, Tryd.ntmps12
  go_wp2_with fail
  refine (offset_any g c pos start A l _ H2.out).mono ?_
  rintro e w1 ⟨rfl, rfl⟩
  have fin := take_fin (stp 9 n) hlt HA.out H2.out (World.grownBy.refl _ _)
  have st := run_st36 fin.1 rfl ((pos : Int)) (0) none 0 0
  unfold gotV at st
  have Fin := hide fin
  have Hst := hide st
  clear fin st
  go_wp2_with ((with_reducible refine wpList_store_run Hst.out _ _ ?_ rfl ?_ ?_ ?_); (rfl); (rfl); (rfl))
  refine bodyPost_ret (v := .agg (gotV ((pos : Int)) (0) none 0 0)) (results_cell_row rfl _ _ (w.heap.size + 1) _ _ (0, 0) _ rfl (Fin.out.1.set) Tryd.underlying36 rfl info36) rfl ?_
  exact ⟨_, _, rfl, BS.nil _ _, (Fin.out.2 _).1, (Fin.out.2 _).2, fun hz => absurd hz (by simp)⟩

set_option maxHeartbeats 1000000 in
theorem take_10 (g c pos start : Nat) (A : Option Addr) (l : List UInt8) (w : World) (n : Int) (h : Inp w g A c l pos start) (hl : l.length ≤ 2147483647) (hp : pos ≤ l.length) (hs : start ≤ pos) :
    Calls Tryd.prog 12 #[.pointer (some ⟨g, 0, none⟩), .agg #[.int .i64 10, .int .i64 n]] w (TakeRet g A c l (pos) (start) ((l.length : Int)) (0) ([]) w) := by
  have h2 := (h.alloc (stp 10 n)).alloc res0
  have hlt := h.lt
  have hA := h.adr
  unfold stp res0 got0 gotV at h2
  have H2 := hide h2
  have HA := hide hA
  clear h h2 hA
  go_enter Tryd.func12, Tryd.ntmps12
  go_wp2_with fail
  refine (len_any g c pos start A l _ H2.out hl).mono ?_
  rintro e w1 ⟨rfl, rfl⟩
  have fin := take_fin (stp 10 n) hlt HA.out H2.out (World.grownBy.refl _ _)
  have st := run_st36 fin.1 rfl ((l.length : Int)) (0) none 0 0
  unfold gotV at st
  have Fin := hide fin
  have Hst := hide st
  clear fin st
  go_wp2_with ((with_reducible refine wpList_store_run Hst.out _ _ ?_ rfl ?_ ?_ ?_); (rfl); (rfl); (rfl))
  refine bodyPost_ret (v := .agg (gotV ((l.length : Int)) (0) none 0 0)) (results_cell_row rfl _ _ (w.heap.size + 1) _ _ (0, 0) _ rfl (Fin.out.1.set) Tryd.underlying36 rfl info36) rfl ?_
  exact ⟨_, _, rfl, BS.nil _ _, (Fin.out.2 _).1, (Fin.out.2 _).2, fun hz => absurd hz (by simp)⟩

set_option maxHeartbeats 1000000 in
theorem take_11 (g c pos start : Nat) (A : Option Addr) (l : List UInt8) (w : World) (n : Int) (h : Inp w g A c l pos start) (hl : l.length ≤ 2147483647) (hp : pos ≤ l.length) (hs : start ≤ pos) :
    Calls Tryd.prog 12 #[.pointer (some ⟨g, 0, none⟩), .agg #[.int .i64 11, .int .i64 n]] w (TakeRet g A c l (0) (0) (0) (0) ([]) w) := by
  have h2 := (h.alloc (stp 11 n)).alloc res0
  have hlt := h.lt
  have hA := h.adr
  unfold stp res0 got0 gotV at h2
  have H2 := hide h2
  have HA := hide hA
  clear h h2 hA
  go_enter Tryd.func12, Tryd.ntmps12
  go_wp2_with fail
  refine (reset_any g c pos start A l _ H2.out).mono ?_
  rintro e w1 ⟨rfl, h1, hg1⟩
  have fin := take_fin (stp 11 n) hlt HA.out h1 hg1
  have st := run_st36 fin.1 rfl (0) (0) none 0 0
  unfold gotV at st
  have Fin := hide fin
  have Hst := hide st
  clear fin st
  go_wp2_with ((with_reducible refine wpList_store_run Hst.out _ _ ?_ rfl ?_ ?_ ?_); (rfl); (rfl); (rfl))
  refine bodyPost_ret (v := .agg (gotV (0) (0) none 0 0)) (results_cell_row rfl _ _ (w.heap.size + 1) _ _ (0, 0) _ rfl (Fin.out.1.set) Tryd.underlying36 rfl info36) rfl ?_
  exact ⟨_, _, rfl, BS.nil _ _, (Fin.out.2 _).1, (Fin.out.2 _).2, fun hz => absurd hz (by simp)⟩

set_option maxHeartbeats 1000000 in
theorem take_12a (g c pos start : Nat) (A : Option Addr) (l : List UInt8) (w : World) (k : Nat) (h : Inp w g A c l pos start) (hl : l.length ≤ 2147483647) (hp : pos ≤ l.length) (hs : start ≤ pos) (hk : pos + k < l.length) (T : TypeId) (a : Addr) (he : Eof w T a) :
    Calls Tryd.prog 12 #[.pointer (some ⟨g, 0, none⟩), .agg #[.int .i64 12, .int .i64 (k : Int)]] w (TakeRet g A c l (pos) (start) (0) (0) ([]) w) := by
  have h2 := (h.alloc (stp 12 (k : Int))).alloc res0
  have hlt := h.lt
  have hA := h.adr
  unfold stp res0 got0 gotV at h2
  have H2 := hide h2
  have HA := hide hA
  clear h h2 hA
  go_enter Tryd.func12, Tryd.ntmps12
  have HE := hide ((he.below ((Below.refl _ _).alloc (Nat.le_refl _) (stp 12 k))).below ((Below.refl _ _).alloc (Nat.le_refl _) res0))
  have ce : w.cell? ⟨0, 0, none⟩ = some (.iface T (.pointer (some a))) := he
  have hel : 0 < w.heap.size := block_lt_of_cell he
  unfold stp res0 got0 gotV at HE
  clear he
  go_wp2
  refine wp_region_quiet_lit (by kernel_rfl) (by kernel_rfl) ?_
  repeat (go_big_quiet_step ((go_at_call 30; exact (peekErr_in g c pos start A l _ k (H2.out.drewN _) hl hk).mono fun _ _ hh => ⟨hh.1, by obtain ⟨m, hm⟩ := hh.2; exact ⟨_, hm.trans (World.drewN_drewN _ _ _)⟩⟩)))
  refine BigFrame.wpQuiet_want rfl fun K hK => quiet_bin _ _ _ _ _ _ _ _ rfl rfl rfl rfl (fun w => run_eql_iface_nil_left w _ _ err49) (hK _ ?_)
  clear hK K
  refine wpQuiet_nil ?_
  rintro _ ⟨nq, rfl⟩
  clear HE ce hel
  have fin := take_fin (stp 12 (k : Int)) hlt HA.out (H2.out.drewN nq) (grown_drewN _ nq _)
  have st := run_st36 fin.1 rfl (0) (0) none 0 0
  unfold gotV at st
  have Fin := hide fin
  have Hst := hide st
  clear fin st
  go_wp2_with ((with_reducible refine wpList_store_run Hst.out _ _ ?_ rfl ?_ ?_ ?_); (rfl); (rfl); (rfl))
  refine bodyPost_ret (v := .agg (gotV (0) (0) none 0 0)) (results_cell_row rfl _ _ (w.heap.size + 1) _ _ (0, 0) _ rfl (Fin.out.1.set) Tryd.underlying36 rfl info36) rfl ?_
  exact ⟨_, _, rfl, BS.nil _ _, (Fin.out.2 _).1, (Fin.out.2 _).2, fun hz => absurd hz (by simp)⟩

set_option maxHeartbeats 1000000 in
theorem take_12b (g c pos start : Nat) (A : Option Addr) (l : List UInt8) (w : World) (k : Nat) (h : Inp w g A c l pos start) (hl : l.length ≤ 2147483647) (hp : pos ≤ l.length) (hs : start ≤ pos) (hk : pos + k = l.length) (T te : TypeId) (i j : TypeInfo) (a : Addr) (hT : Tryd.prog.underlying T = some (.pointer te)) (hi : Tryd.prog.info? T = some i) (hc : i.comparable = true) (hj : Tryd.prog.info? te = some j) (he : Eof w T a) :
    Calls Tryd.prog 12 #[.pointer (some ⟨g, 0, none⟩), .agg #[.int .i64 12, .int .i64 (k : Int)]] w (TakeRet g A c l (pos) (start) (1) (0) ([]) w) := by
  have h2 := (h.alloc (stp 12 (k : Int))).alloc res0
  have hlt := h.lt
  have hA := h.adr
  unfold stp res0 got0 gotV at h2
  have H2 := hide h2
  have HA := hide hA
  clear h h2 hA
  go_enter Tryd.func12, Tryd.ntmps12
  have HE := hide ((he.below ((Below.refl _ _).alloc (Nat.le_refl _) (stp 12 k))).below ((Below.refl _ _).alloc (Nat.le_refl _) res0))
  have ce : w.cell? ⟨0, 0, none⟩ = some (.iface T (.pointer (some a))) := he
  have hel : 0 < w.heap.size := block_lt_of_cell he
  unfold stp res0 got0 gotV at HE
  clear he
  go_wp2
  refine wp_region_quiet_lit (by kernel_rfl) (by kernel_rfl) ?_
  repeat (go_big_quiet_step ((go_at_call 30; exact (peekErr_end g c pos start A l _ T a k (H2.out.drewN _) HE.out hl hk).mono fun _ _ hh => ⟨hh.1, by obtain ⟨m, hm⟩ := hh.2; exact ⟨_, hm.trans (World.drewN_drewN _ _ _)⟩⟩)))
  refine BigFrame.wpQuiet_want rfl fun K hK => quiet_bin _ _ _ _ _ _ _ _ rfl rfl rfl rfl (fun w => run_eql_iface_ptr_same w a err49 hT hi hc hj) (hK _ ?_)
  clear hK K
  refine wpQuiet_nil ?_
  rintro _ ⟨nq, rfl⟩
  clear HE ce hel
  have fin := take_fin (stp 12 (k : Int)) hlt HA.out (H2.out.drewN nq) (grown_drewN _ nq _)
  have st := run_st36 fin.1 rfl (1) (0) none 0 0
  unfold gotV at st
  have Fin := hide fin
  have Hst := hide st
  clear fin st
  go_wp2_with ((with_reducible refine wpList_store_run Hst.out _ _ ?_ rfl ?_ ?_ ?_); (rfl); (rfl); (rfl))
  refine bodyPost_ret (v := .agg (gotV (1) (0) none 0 0)) (results_cell_row rfl _ _ (w.heap.size + 1) _ _ (0, 0) _ rfl (Fin.out.1.set) Tryd.underlying36 rfl info36) rfl ?_
  exact ⟨_, _, rfl, BS.nil _ _, (Fin.out.2 _).1, (Fin.out.2 _).2, fun hz => absurd hz (by simp)⟩

end Go.Proofs.YthfnahcaoeggbaaDoor
