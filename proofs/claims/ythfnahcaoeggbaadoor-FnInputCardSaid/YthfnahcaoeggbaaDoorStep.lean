/- The steps of the shop's own input. Conditions: lengths below 2^31. -/
import Derived.Test.YthfnahcaoeggbaaDoorLook
namespace Go.Proofs.YthfnahcaoeggbaaDoor
open Go.RowKit
set_option linter.unusedVariables false

/-- The end of a step, from whatever world. -/
theorem zin_fin3 {w w1 : World} {r c p s : Nat} {A : Option Addr} {l : List UInt8} (hlt : r < w.heap.size) (hA : 0 < l.length → ∀ b o, A = some ⟨b, o, none⟩ → b < w.heap.size) (h1 : Zin w1 r A c l p s) (hw : w.grownBy w1 (some r)) (hq : GotAt w1 (w.heap.size + 1) got0) :
    GotAt w1 (w.heap.size + 1) got0 ∧ ∀ V, Zin (w1.setRow (w.heap.size + 1) V) r A c l p s ∧ w.grownBy (w1.setRow (w.heap.size + 1) V) (some r) :=
  ⟨hq, fun V => ⟨h1.setRow (by omega) (fun h0 b o' e => by have := hA h0 b o' e; omega) V, grown_setRow hw (by omega) V⟩⟩
/-- A store whose run is known, as one step of a region that draws its order. -/
theorem step_store_run {P : Program} {ops : Array Oper} {o : Oper} {a : Act} {w : World} {K : Act → World → Prop} {Q : Exit → Act → World → Prop} {E : Prop} {vp vx : Value} {w' : World} {t : TypeId}
    (hrun : (Instr.storeAt t vp vx).run P w = .ok () w') (p x : Operand) (hw : Region.wanted o (yielded ops a.tmps) = true) (ho : o.op = .store t p x) (hp : a.eval p = vp) (hx : a.eval x = vx)
    (hK : K (a.put o.dst undef) w') : if Region.wanted o (yielded ops a.tmps) = true then Oper.wp P o a w K Q else E := by
  rw [if_pos hw]
  subst hp hx
  unfold Oper.wp execOp
  simp only [ho, Sem.run_bind, Sem.run_pure, Result.andThen_ok, hrun]
  exact hK
set_option maxRecDepth 100000 in
set_option maxHeartbeats 1000000 in
theorem step_see0 (r c pos start : Nat) (A : Option Addr) (l : List UInt8) (w : World) (n num oth : Int) (h : Zin w r A c l pos start) (hl : l.length ≤ 2147483647) (hp : pos ≤ l.length) (hs : start ≤ pos) (hlook : ∀ w, Zin w r A c l pos start → Calls Tryd.prog 13 #[.pointer (some ⟨r, 0, none⟩), .agg #[.int .i64 0, .int .i64 n]] w (StepRet r A c l pos start num oth [] w)) :
    Calls Tryd.prog 9 #[.pointer (some ⟨r, 0, none⟩), .agg #[.int .i64 0, .int .i64 n]] w (StepRet r A c l (pos) (start) (num) (oth) ([]) w) := by
  have h2 := (h.alloc (stp 0 n)).alloc res0
  have hlt := h.lt
  have hA := h.adr

  unfold stp res0 got0 gotV at h2
  have H2 := hide h2
  have HA := hide hA
  clear h h2 hA
  go_enter Tryd.func9, Tryd.ntmps9
  go_wp2_with fail
  refine (hlook _ H2.out).mono ?_
  rintro e w1 ⟨A1, c1', rfl, hb1, Z1, G1, _⟩
  have HZ := hide Z1
  have HG := hide G1
  clear Z1 G1
  have fin := zin_fin (stp 0 n) hlt HA.out HZ.out HG.out
  have st := run_st36 fin.1 rfl (num) (oth) A1 0 c1'
  unfold gotV at st
  have Fin := hide fin
  have Hst := hide st
  clear fin st
  go_wp2_with ((with_reducible refine wpList_store_run Hst.out _ _ ?_ rfl ?_ ?_ ?_); (rfl); (rfl); (rfl))
  refine bodyPost_ret (v := .tuple #[.agg (gotV (num) (oth) A1 0 c1'), .bool true]) (results_row_tmp rfl _ _ (w.heap.size + 1) _ (gotV (num) (oth) A1 0 c1') (0, 0) _ (.bool true) rfl rfl (Fin.out.1.set) Tryd.underlying36 rfl info36) rfl ?_
  exact ⟨_, _, rfl, BS.nil _ _, (Fin.out.2 _).1, (Fin.out.2 _).2, fun hz => absurd hz (by simp)⟩
set_option maxRecDepth 100000 in
set_option maxHeartbeats 1000000 in
theorem step_un0 (r c pos start : Nat) (A : Option Addr) (l : List UInt8) (w : World) (n : Int) (h : Zin w r A c l pos start) (hl : l.length ≤ 2147483647) (hp : pos ≤ l.length) (hs : start ≤ pos) (hlook : ∀ w, Zin w r A c l pos start → Calls Tryd.prog 13 #[.pointer (some ⟨r, 0, none⟩), .agg #[.int .i64 0, .int .i64 n]] w (StepBad r A c l w)) :
    Calls Tryd.prog 9 #[.pointer (some ⟨r, 0, none⟩), .agg #[.int .i64 0, .int .i64 n]] w (StepBad r A c l w) := by
  have h2 := (h.alloc (stp 0 n)).alloc res0
  have hlt := h.lt
  have hA := h.adr

  unfold stp res0 got0 gotV at h2
  have H2 := hide h2
  have HA := hide hA
  clear h h2 hA
  go_enter Tryd.func9, Tryd.ntmps9
  go_wp2_with fail
  refine (hlook _ H2.out).mono ?_
  rintro e w1 ⟨rfl, ⟨p1, s1, Z1⟩, G1⟩
  have HZ := hide Z1
  have HG := hide G1
  clear Z1 G1
  have fin := zin_fin (stp 0 n) hlt HA.out HZ.out HG.out
  have st := run_st36 fin.1 rfl (0) (0) none 0 0
  unfold gotV at st
  have Fin := hide fin
  have Hst := hide st
  clear fin st
  go_wp2_with ((with_reducible refine wpList_store_run Hst.out _ _ ?_ rfl ?_ ?_ ?_); (rfl); (rfl); (rfl))
  refine bodyPost_ret (v := .tuple #[.agg (gotV 0 0 none 0 0), .bool false]) (results_row_tmp rfl _ _ (w.heap.size + 1) _ (gotV 0 0 none 0 0) (0, 0) _ (.bool false) rfl rfl (Fin.out.1.set) Tryd.underlying36 rfl info36) rfl ?_
  exact ⟨rfl, ⟨_, _, (Fin.out.2 _).1⟩, (Fin.out.2 _).2⟩
set_option maxRecDepth 100000 in
set_option maxHeartbeats 1000000 in
theorem step_see1 (r c pos start : Nat) (A : Option Addr) (l : List UInt8) (w : World) (n num oth : Int) (h : Zin w r A c l pos start) (hl : l.length ≤ 2147483647) (hp : pos ≤ l.length) (hs : start ≤ pos) (hlook : ∀ w, Zin w r A c l pos start → Calls Tryd.prog 13 #[.pointer (some ⟨r, 0, none⟩), .agg #[.int .i64 1, .int .i64 n]] w (StepRet r A c l pos start num oth [] w)) :
    Calls Tryd.prog 9 #[.pointer (some ⟨r, 0, none⟩), .agg #[.int .i64 1, .int .i64 n]] w (StepRet r A c l (pos) (start) (num) (oth) ([]) w) := by
  have h2 := (h.alloc (stp 1 n)).alloc res0
  have hlt := h.lt
  have hA := h.adr

  unfold stp res0 got0 gotV at h2
  have H2 := hide h2
  have HA := hide hA
  clear h h2 hA
  go_enter Tryd.func9, Tryd.ntmps9
  go_wp2_with fail
  refine (hlook _ H2.out).mono ?_
  rintro e w1 ⟨A1, c1', rfl, hb1, Z1, G1, _⟩
  have HZ := hide Z1
  have HG := hide G1
  clear Z1 G1
  have fin := zin_fin (stp 1 n) hlt HA.out HZ.out HG.out
  have st := run_st36 fin.1 rfl (num) (oth) A1 0 c1'
  unfold gotV at st
  have Fin := hide fin
  have Hst := hide st
  clear fin st
  go_wp2_with ((with_reducible refine wpList_store_run Hst.out _ _ ?_ rfl ?_ ?_ ?_); (rfl); (rfl); (rfl))
  refine bodyPost_ret (v := .tuple #[.agg (gotV (num) (oth) A1 0 c1'), .bool true]) (results_row_tmp rfl _ _ (w.heap.size + 1) _ (gotV (num) (oth) A1 0 c1') (0, 0) _ (.bool true) rfl rfl (Fin.out.1.set) Tryd.underlying36 rfl info36) rfl ?_
  exact ⟨_, _, rfl, BS.nil _ _, (Fin.out.2 _).1, (Fin.out.2 _).2, fun hz => absurd hz (by simp)⟩
set_option maxRecDepth 100000 in
set_option maxHeartbeats 1000000 in
theorem step_un1 (r c pos start : Nat) (A : Option Addr) (l : List UInt8) (w : World) (n : Int) (h : Zin w r A c l pos start) (hl : l.length ≤ 2147483647) (hp : pos ≤ l.length) (hs : start ≤ pos) (hlook : ∀ w, Zin w r A c l pos start → Calls Tryd.prog 13 #[.pointer (some ⟨r, 0, none⟩), .agg #[.int .i64 1, .int .i64 n]] w (StepBad r A c l w)) :
    Calls Tryd.prog 9 #[.pointer (some ⟨r, 0, none⟩), .agg #[.int .i64 1, .int .i64 n]] w (StepBad r A c l w) := by
  have h2 := (h.alloc (stp 1 n)).alloc res0
  have hlt := h.lt
  have hA := h.adr

  unfold stp res0 got0 gotV at h2
  have H2 := hide h2
  have HA := hide hA
  clear h h2 hA
  go_enter Tryd.func9, Tryd.ntmps9
  go_wp2_with fail
  refine (hlook _ H2.out).mono ?_
  rintro e w1 ⟨rfl, ⟨p1, s1, Z1⟩, G1⟩
  have HZ := hide Z1
  have HG := hide G1
  clear Z1 G1
  have fin := zin_fin (stp 1 n) hlt HA.out HZ.out HG.out
  have st := run_st36 fin.1 rfl (0) (0) none 0 0
  unfold gotV at st
  have Fin := hide fin
  have Hst := hide st
  clear fin st
  go_wp2_with ((with_reducible refine wpList_store_run Hst.out _ _ ?_ rfl ?_ ?_ ?_); (rfl); (rfl); (rfl))
  refine bodyPost_ret (v := .tuple #[.agg (gotV 0 0 none 0 0), .bool false]) (results_row_tmp rfl _ _ (w.heap.size + 1) _ (gotV 0 0 none 0 0) (0, 0) _ (.bool false) rfl rfl (Fin.out.1.set) Tryd.underlying36 rfl info36) rfl ?_
  exact ⟨rfl, ⟨_, _, (Fin.out.2 _).1⟩, (Fin.out.2 _).2⟩
set_option maxRecDepth 100000 in
set_option maxHeartbeats 1000000 in
theorem step_see12 (r c pos start : Nat) (A : Option Addr) (l : List UInt8) (w : World) (n num oth : Int) (h : Zin w r A c l pos start) (hl : l.length ≤ 2147483647) (hp : pos ≤ l.length) (hs : start ≤ pos) (hlook : ∀ w, Zin w r A c l pos start → Calls Tryd.prog 13 #[.pointer (some ⟨r, 0, none⟩), .agg #[.int .i64 12, .int .i64 n]] w (StepRet r A c l pos start num oth [] w)) :
    Calls Tryd.prog 9 #[.pointer (some ⟨r, 0, none⟩), .agg #[.int .i64 12, .int .i64 n]] w (StepRet r A c l (pos) (start) (num) (oth) ([]) w) := by
  have h2 := (h.alloc (stp 12 n)).alloc res0
  have hlt := h.lt
  have hA := h.adr

  unfold stp res0 got0 gotV at h2
  have H2 := hide h2
  have HA := hide hA
  clear h h2 hA
  go_enter Tryd.func9, Tryd.ntmps9
  go_wp2_with fail
  refine (hlook _ H2.out).mono ?_
  rintro e w1 ⟨A1, c1', rfl, hb1, Z1, G1, _⟩
  have HZ := hide Z1
  have HG := hide G1
  clear Z1 G1
  have fin := zin_fin (stp 12 n) hlt HA.out HZ.out HG.out
  have st := run_st36 fin.1 rfl (num) (oth) A1 0 c1'
  unfold gotV at st
  have Fin := hide fin
  have Hst := hide st
  clear fin st
  go_wp2_with ((with_reducible refine wpList_store_run Hst.out _ _ ?_ rfl ?_ ?_ ?_); (rfl); (rfl); (rfl))
  refine bodyPost_ret (v := .tuple #[.agg (gotV (num) (oth) A1 0 c1'), .bool true]) (results_row_tmp rfl _ _ (w.heap.size + 1) _ (gotV (num) (oth) A1 0 c1') (0, 0) _ (.bool true) rfl rfl (Fin.out.1.set) Tryd.underlying36 rfl info36) rfl ?_
  exact ⟨_, _, rfl, BS.nil _ _, (Fin.out.2 _).1, (Fin.out.2 _).2, fun hz => absurd hz (by simp)⟩
set_option maxRecDepth 100000 in
set_option maxHeartbeats 1000000 in
theorem step_un12 (r c pos start : Nat) (A : Option Addr) (l : List UInt8) (w : World) (n : Int) (h : Zin w r A c l pos start) (hl : l.length ≤ 2147483647) (hp : pos ≤ l.length) (hs : start ≤ pos) (hlook : ∀ w, Zin w r A c l pos start → Calls Tryd.prog 13 #[.pointer (some ⟨r, 0, none⟩), .agg #[.int .i64 12, .int .i64 n]] w (StepBad r A c l w)) :
    Calls Tryd.prog 9 #[.pointer (some ⟨r, 0, none⟩), .agg #[.int .i64 12, .int .i64 n]] w (StepBad r A c l w) := by
  have h2 := (h.alloc (stp 12 n)).alloc res0
  have hlt := h.lt
  have hA := h.adr

  unfold stp res0 got0 gotV at h2
  have H2 := hide h2
  have HA := hide hA
  clear h h2 hA
  go_enter Tryd.func9, Tryd.ntmps9
  go_wp2_with fail
  refine (hlook _ H2.out).mono ?_
  rintro e w1 ⟨rfl, ⟨p1, s1, Z1⟩, G1⟩
  have HZ := hide Z1
  have HG := hide G1
  clear Z1 G1
  have fin := zin_fin (stp 12 n) hlt HA.out HZ.out HG.out
  have st := run_st36 fin.1 rfl (0) (0) none 0 0
  unfold gotV at st
  have Fin := hide fin
  have Hst := hide st
  clear fin st
  go_wp2_with ((with_reducible refine wpList_store_run Hst.out _ _ ?_ rfl ?_ ?_ ?_); (rfl); (rfl); (rfl))
  refine bodyPost_ret (v := .tuple #[.agg (gotV 0 0 none 0 0), .bool false]) (results_row_tmp rfl _ _ (w.heap.size + 1) _ (gotV 0 0 none 0 0) (0, 0) _ (.bool false) rfl rfl (Fin.out.1.set) Tryd.underlying36 rfl info36) rfl ?_
  exact ⟨rfl, ⟨_, _, (Fin.out.2 _).1⟩, (Fin.out.2 _).2⟩
set_option maxRecDepth 100000 in
set_option maxHeartbeats 1000000 in
theorem step_bad2 (r c pos start : Nat) (A : Option Addr) (l : List UInt8) (w : World) (n : Int) (h : Zin w r A c l pos start) (hl : l.length ≤ 2147483647) (hp : pos ≤ l.length) (hs : start ≤ pos) (hi : isIn l pos n = false) :
    Calls Tryd.prog 9 #[.pointer (some ⟨r, 0, none⟩), .agg #[.int .i64 2, .int .i64 n]] w (StepBad r A c l w) := by
  have h2 := (h.alloc (stp 2 n)).alloc res0
  have hlt := h.lt
  have hA := h.adr

  unfold stp res0 got0 gotV at h2
  have H2 := hide h2
  have HA := hide hA
  clear h h2 hA
  go_enter Tryd.func9, Tryd.ntmps9
  go_wp2_with fail
  refine (inside_no r c pos start _ l _ n H2.out hl hp hi).mono ?_
  rintro e w1 ⟨rfl, m, rfl⟩
  have fin := zin_fin (stp 2 n) hlt HA.out (H2.out.drewN m) (grown_drewN _ m _)
  have st := run_st36 fin.1 rfl (0) (0) none 0 0
  unfold gotV at st
  have Fin := hide fin
  have Hst := hide st
  clear fin st
  go_wp2_with ((with_reducible refine wpList_store_run Hst.out _ _ ?_ rfl ?_ ?_ ?_); (rfl); (rfl); (rfl))
  refine bodyPost_ret (v := .tuple #[.agg (gotV 0 0 none 0 0), .bool false]) (results_row_tmp rfl _ _ (w.heap.size + 1) _ (gotV 0 0 none 0 0) (0, 0) _ (.bool false) rfl rfl (Fin.out.1.set) Tryd.underlying36 rfl info36) rfl ?_
  exact ⟨rfl, ⟨_, _, (Fin.out.2 _).1⟩, (Fin.out.2 _).2⟩
set_option maxRecDepth 100000 in
set_option maxHeartbeats 1000000 in
theorem step_9 (r c pos start : Nat) (A : Option Addr) (l : List UInt8) (w : World) (n : Int) (h : Zin w r A c l pos start) (hl : l.length ≤ 2147483647) (hp : pos ≤ l.length) (hs : start ≤ pos) :
    Calls Tryd.prog 9 #[.pointer (some ⟨r, 0, none⟩), .agg #[.int .i64 9, .int .i64 n]] w (StepRet r A c l (pos) (start) ((pos : Int)) (0) ([]) w) := by
  have h2 := (h.alloc (stp 9 n)).alloc res0
  have hlt := h.lt
  have hA := h.adr

  have c0 := h.c0
  have c1 := h.c1
  have c2 := h.c2
  unfold stp res0 got0 gotV at h2
  have H2 := hide h2
  have HA := hide hA
  clear h h2 hA
  go_enter Tryd.func9, Tryd.ntmps9
  have fin := zin_fin (stp 9 n) hlt HA.out H2.out (World.grownBy.refl _ _)
  have st := run_st36 fin.1 rfl ((pos : Int)) (0) none 0 0
  unfold gotV at st
  have Fin := hide fin
  have Hst := hide st
  clear fin st
  go_wp2_with ((with_reducible refine wpList_store_run Hst.out _ _ ?_ rfl ?_ ?_ ?_); (rfl); (rfl); (rfl))
  refine bodyPost_ret (v := .tuple #[.agg (gotV ((pos : Int)) (0) none 0 0), .bool true]) (results_row_tmp rfl _ _ (w.heap.size + 1) _ (gotV ((pos : Int)) (0) none 0 0) (0, 0) _ (.bool true) rfl rfl (Fin.out.1.set) Tryd.underlying36 rfl info36) rfl ?_
  exact ⟨_, _, rfl, BS.nil _ _, (Fin.out.2 _).1, (Fin.out.2 _).2, fun hz => absurd hz (by simp)⟩
set_option maxRecDepth 100000 in
set_option maxHeartbeats 1000000 in
theorem step_10 (r c pos start : Nat) (A : Option Addr) (l : List UInt8) (w : World) (n : Int) (h : Zin w r A c l pos start) (hl : l.length ≤ 2147483647) (hp : pos ≤ l.length) (hs : start ≤ pos) :
    Calls Tryd.prog 9 #[.pointer (some ⟨r, 0, none⟩), .agg #[.int .i64 10, .int .i64 n]] w (StepRet r A c l (pos) (start) ((l.length : Int)) (0) ([]) w) := by
  have h2 := (h.alloc (stp 10 n)).alloc res0
  have hlt := h.lt
  have hA := h.adr

  have c0 := h.c0
  have c1 := h.c1
  have c2 := h.c2
  unfold stp res0 got0 gotV at h2
  have H2 := hide h2
  have HA := hide hA
  clear h h2 hA
  go_enter Tryd.func9, Tryd.ntmps9
  have fin := zin_fin (stp 10 n) hlt HA.out H2.out (World.grownBy.refl _ _)
  have st := run_st36 fin.1 rfl ((l.length : Int)) (0) none 0 0
  unfold gotV at st
  have Fin := hide fin
  have Hst := hide st
  clear fin st
  go_wp2_with ((with_reducible refine wpList_store_run Hst.out _ _ ?_ rfl ?_ ?_ ?_); (rfl); (rfl); (rfl))
  refine bodyPost_ret (v := .tuple #[.agg (gotV ((l.length : Int)) (0) none 0 0), .bool true]) (results_row_tmp rfl _ _ (w.heap.size + 1) _ (gotV ((l.length : Int)) (0) none 0 0) (0, 0) _ (.bool true) rfl rfl (Fin.out.1.set) Tryd.underlying36 rfl info36) rfl ?_
  exact ⟨_, _, rfl, BS.nil _ _, (Fin.out.2 _).1, (Fin.out.2 _).2, fun hz => absurd hz (by simp)⟩
set_option maxRecDepth 100000 in
set_option maxHeartbeats 1000000 in
theorem step_7 (r c pos start : Nat) (A : Option Addr) (l : List UInt8) (w : World) (n : Int) (h : Zin w r A c l pos start) (hl : l.length ≤ 2147483647) (hp : pos ≤ l.length) (hs : start ≤ pos) :
    Calls Tryd.prog 9 #[.pointer (some ⟨r, 0, none⟩), .agg #[.int .i64 7, .int .i64 n]] w (StepRet r A c l (pos) (start) ((pos : Int) - (start : Int)) (0) ([]) w) := by
  have h2 := (h.alloc (stp 7 n)).alloc res0
  have hlt := h.lt
  have hA := h.adr

  have c0 := h.c0
  have c1 := h.c1
  have c2 := h.c2
  have t1 : IntKind.i64.wrap ((pos : Int) - (start : Int)) = (pos : Int) - (start : Int) := IntWalk.i64_in _ (by omega)
  have fin2 := zin_fin2 (stp 7 n) (gotV ((pos : Int) - (start : Int)) (0) none 0 0) h
  unfold stp gotV at fin2
  have Fin2 := hide fin2
  clear fin2
  unfold stp res0 got0 gotV at h2
  have H2 := hide h2
  have HA := hide hA
  clear h h2 hA
  go_enter Tryd.func9, Tryd.ntmps9
  go_wp2
  go_region
  all_goals (
    go_wp2
    refine bodyPost_ret (v := .tuple #[.agg (gotV ((pos : Int) - (start : Int)) (0) none 0 0), .bool true]) (results_row_tmp rfl _ _ (w.heap.size + 1) _ (gotV ((pos : Int) - (start : Int)) (0) none 0 0) (0, 0) _ (.bool true) rfl rfl (Fin2.out.1) Tryd.underlying36 rfl info36) rfl ?_
    exact ⟨_, _, rfl, BS.nil _ _, Fin2.out.2.1, Fin2.out.2.2, fun hz => absurd hz (by simp)⟩)
set_option maxRecDepth 100000 in
set_option maxHeartbeats 1000000 in
theorem step_5 (r c pos start : Nat) (A : Option Addr) (l : List UInt8) (w : World) (n : Int) (h : Zin w r A c l pos start) (hl : l.length ≤ 2147483647) (hp : pos ≤ l.length) (hs : start ≤ pos) :
    Calls Tryd.prog 9 #[.pointer (some ⟨r, 0, none⟩), .agg #[.int .i64 5, .int .i64 n]] w (StepRet r A c l pos pos 0 0 [] w) := by
  have h2 := (h.alloc (stp 5 n)).alloc res0
  have hlt := h.lt
  have hA := h.adr
  have hro := h.room
  have c0 := h.c0
  have c1 := h.c1
  have c2 := h.c2
  have f1 := h.fr 1
  have f2 := h.fr 2
  unfold stp res0 got0 gotV at h2
  have H2 := hide h2
  have HA := hide hA
  have H := hide h
  clear h h2 hA
  go_enter Tryd.func9, Tryd.ntmps9
  go_upto_region 35 with (fail)
  obtain ⟨w1, hw1⟩ : ∃ w1, (((w.setCell ⟨r, 1, none⟩ (.int .i64 (pos : Int))).alloc (.cells #[.int .i64 5, .int .i64 n] 33)).alloc (.cells #[.int .i64 0, .int .i64 0, .slice none 0 0] 36)) = w1 := ⟨_, rfl⟩
  have hz1 : Zin w1 r A c l pos pos := by rw [← hw1]; exact ((H.out.setStart pos).alloc _).alloc _
  have hg1 : w.grownBy w1 (some r) := by rw [← hw1]; exact ((grown_set (World.grownBy.refl w (some r)) (p := ⟨r, 1, none⟩) (.inl rfl) _).trans (grown_alloc _ _ _)).trans (grown_alloc _ _ _)
  have hq1 : GotAt w1 (w.heap.size + 1) got0 := by
    rw [← hw1]
    have t := two_at (w.setCell ⟨r, 1, none⟩ (.int .i64 (pos : Int))) (stp 5 n)
    have e : (w.setCell ⟨r, 1, none⟩ (.int .i64 (pos : Int))).heap.size = w.heap.size := by simp [World.setCell]
    rw [e] at t
    exact t
  rw [hw1]
  have fin := zin_fin3 hlt HA.out hz1 hg1 hq1
  clear hw1 hz1 hg1 hq1
  have st := run_st36 fin.1 rfl (0) (0) none 0 0
  unfold gotV at st
  have Fin := hide fin
  have Hst := hide st
  clear fin st
  go_wp2_with ((with_reducible refine wpList_store_run Hst.out _ _ ?_ rfl ?_ ?_ ?_); (rfl); (rfl); (rfl))
  refine bodyPost_ret (v := .tuple #[.agg (gotV 0 0 none 0 0), .bool true]) (results_row_tmp rfl _ _ (w.heap.size + 1) _ (gotV 0 0 none 0 0) (0, 0) _ (.bool true) rfl rfl (Fin.out.1.set) Tryd.underlying36 rfl info36) rfl ?_
  exact ⟨_, _, rfl, BS.nil _ _, (Fin.out.2 _).1, (Fin.out.2 _).2, fun hz => absurd hz (by simp)⟩
set_option maxRecDepth 100000 in
set_option maxHeartbeats 1000000 in
theorem step_11 (r c pos start : Nat) (A : Option Addr) (l : List UInt8) (w : World) (n : Int) (h : Zin w r A c l pos start) (hl : l.length ≤ 2147483647) (hp : pos ≤ l.length) (hs : start ≤ pos) :
    Calls Tryd.prog 9 #[.pointer (some ⟨r, 0, none⟩), .agg #[.int .i64 11, .int .i64 n]] w (StepRet r A c l 0 0 0 0 [] w) := by
  have h2 := (h.alloc (stp 11 n)).alloc res0
  have hlt := h.lt
  have hA := h.adr
  have hro := h.room
  have c0 := h.c0
  have c1 := h.c1
  have c2 := h.c2
  have f1 := h.fr 1
  have f2 := h.fr 2
  unfold stp res0 got0 gotV at h2
  have H2 := hide h2
  have HA := hide hA
  have H := hide h
  clear h h2 hA
  go_enter Tryd.func9, Tryd.ntmps9
  go_upto_region 35 with (fail)
  obtain ⟨w1, hw1⟩ : ∃ w1, ((((w.setCell ⟨r, 1, none⟩ (.int .i64 0)).setCell ⟨r, 2, none⟩ (.int .i64 0)).alloc (.cells #[.int .i64 11, .int .i64 n] 33)).alloc (.cells #[.int .i64 0, .int .i64 0, .slice none 0 0] 36)) = w1 := ⟨_, rfl⟩
  have hz1 : Zin w1 r A c l 0 0 := by rw [← hw1]; exact (((H.out.setStart 0).setPos 0).alloc _).alloc _
  have hg1 : w.grownBy w1 (some r) := by rw [← hw1]; exact ((grown_set (grown_set (World.grownBy.refl w (some r)) (p := ⟨r, 1, none⟩) (.inl rfl) _) (p := ⟨r, 2, none⟩) (.inl rfl) _).trans (grown_alloc _ _ _)).trans (grown_alloc _ _ _)
  have hq1 : GotAt w1 (w.heap.size + 1) got0 := by
    rw [← hw1]
    have t := two_at ((w.setCell ⟨r, 1, none⟩ (.int .i64 0)).setCell ⟨r, 2, none⟩ (.int .i64 0)) (stp 11 n)
    have e : ((w.setCell ⟨r, 1, none⟩ (.int .i64 0)).setCell ⟨r, 2, none⟩ (.int .i64 0)).heap.size = w.heap.size := by simp [World.setCell]
    rw [e] at t
    exact t
  rw [hw1]
  have fin := zin_fin3 hlt HA.out hz1 hg1 hq1
  clear hw1 hz1 hg1 hq1
  have st := run_st36 fin.1 rfl (0) (0) none 0 0
  unfold gotV at st
  have Fin := hide fin
  have Hst := hide st
  clear fin st
  go_wp2_with ((with_reducible refine wpList_store_run Hst.out _ _ ?_ rfl ?_ ?_ ?_); (rfl); (rfl); (rfl))
  refine bodyPost_ret (v := .tuple #[.agg (gotV 0 0 none 0 0), .bool true]) (results_row_tmp rfl _ _ (w.heap.size + 1) _ (gotV 0 0 none 0 0) (0, 0) _ (.bool true) rfl rfl (Fin.out.1.set) Tryd.underlying36 rfl info36) rfl ?_
  exact ⟨_, _, rfl, BS.nil _ _, (Fin.out.2 _).1, (Fin.out.2 _).2, fun hz => absurd hz (by simp)⟩
set_option maxRecDepth 100000 in
set_option maxHeartbeats 1000000 in
theorem step_4 (r c pos start : Nat) (A : Option Addr) (l : List UInt8) (w : World) (n : Int) (h : Zin w r A c l pos start) (hl : l.length ≤ 2147483647) (hp : pos ≤ l.length) (hs : start ≤ pos) :
    Calls Tryd.prog 9 #[.pointer (some ⟨r, 0, none⟩), .agg #[.int .i64 4, .int .i64 n]] w (StepRet r A c l pos pos 0 0 (sel l start pos) w) := by
  have h2 := (h.alloc (stp 4 n)).alloc res0
  have hlt := h.lt
  have hA := h.adr
  have hro := h.room
  have c0 := h.c0
  have c1 := h.c1
  have c2 := h.c2
  have f1 := h.fr 1
  have f2 := h.fr 2
  obtain ⟨Ax, hAx⟩ : ∃ Ax, (if c = start then A else Option.map (fun x => x.add start) A) = Ax := ⟨_, rfl⟩
  have HAx := hide hAx
  have k1 : (start : Int) ≤ (pos : Int) := by omega
  have k2 : (pos : Int) ≤ (c : Int) := by omega
  unfold stp res0 got0 gotV at h2
  have H2 := hide h2
  have HA := hide hA
  have H := hide h
  clear h h2 hA
  go_enter Tryd.func9, Tryd.ntmps9
  go_wp2
  go_quiet (fail)
  go_upto_region 18 with (fail)
  have fin := zin_fin (stp 4 n) hlt HA.out ((H2.out.drewN nq).setStart pos) (grown_set (grown_drewN _ nq (some r)) (p := ⟨r, 1, none⟩) (.inl rfl) (.int .i64 (pos : Int)))
  have st := run_st36 fin.1 rfl (0) (0) Ax (pos - start) (c - start)
  unfold gotV at st
  have Fin := hide fin
  have Hst := hide st
  clear fin st
  go_wp2_with ((with_reducible refine wpList_store_run Hst.out _ _ ?_ rfl ?_ ?_ ?_); (rfl); (rfl); (rfl))
  refine bodyPost_ret (v := .tuple #[.agg (gotV 0 0 Ax (pos - start) (c - start)), .bool true]) (results_row_tmp rfl _ _ (w.heap.size + 1) _ (gotV 0 0 Ax (pos - start) (c - start)) (0, 0) _ (.bool true) rfl rfl (Fin.out.1.set) Tryd.underlying36 rfl info36) rfl ?_
  exact ⟨_, _, by rw [sel_len hp], (by have t := (lo_bs (Fin.out.2 (gotV 0 0 Ax (pos - start) (c - start))).1.bs c start hro).take (pos - start); rw [show loA A c start = Ax from HAx.out] at t; exact t), (Fin.out.2 (gotV 0 0 Ax (pos - start) (c - start))).1, (Fin.out.2 (gotV 0 0 Ax (pos - start) (c - start))).2, fun _ => by rw [← show loA A c start = Ax from HAx.out]; exact loA_blk A c start⟩
set_option maxRecDepth 100000 in
set_option maxHeartbeats 1000000 in
theorem step_6 (r c pos start : Nat) (A : Option Addr) (l : List UInt8) (w : World) (n : Int) (h : Zin w r A c l pos start) (hl : l.length ≤ 2147483647) (hp : pos ≤ l.length) (hs : start ≤ pos) :
    Calls Tryd.prog 9 #[.pointer (some ⟨r, 0, none⟩), .agg #[.int .i64 6, .int .i64 n]] w (StepRet r A c l pos start 0 0 (sel l start pos) w) := by
  have h2 := (h.alloc (stp 6 n)).alloc res0
  have hlt := h.lt
  have hA := h.adr
  have hro := h.room
  have c0 := h.c0
  have c1 := h.c1
  have c2 := h.c2
  have f1 := h.fr 1
  have f2 := h.fr 2
  obtain ⟨Ax, hAx⟩ : ∃ Ax, (if c = start then A else Option.map (fun x => x.add start) A) = Ax := ⟨_, rfl⟩
  have HAx := hide hAx
  have k1 : start ≤ pos := by omega
  have k2 : pos ≤ c := by omega
  have fin2 := zin_fin2 (stp 6 n) (gotV 0 0 Ax (pos - start) (c - start)) h
  unfold stp gotV at fin2
  have Fin2 := hide fin2
  clear fin2
  unfold stp res0 got0 gotV at h2
  have H2 := hide h2
  have HA := hide hA
  have H := hide h
  clear h h2 hA
  go_enter Tryd.func9, Tryd.ntmps9
  go_wp2
  go_region
  all_goals (
    go_wp2
    refine bodyPost_ret (v := .tuple #[.agg (gotV 0 0 Ax (pos - start) (c - start)), .bool true]) (results_row_tmp rfl _ _ (w.heap.size + 1) _ (gotV 0 0 Ax (pos - start) (c - start)) (0, 0) _ (.bool true) rfl rfl (Fin2.out.1) Tryd.underlying36 rfl info36) rfl ?_
    exact ⟨_, _, by rw [sel_len hp], (by have t := (lo_bs Fin2.out.2.1.bs c start hro).take (pos - start); rw [show loA A c start = Ax from HAx.out] at t; exact t), Fin2.out.2.1, Fin2.out.2.2, fun _ => by rw [← show loA A c start = Ax from HAx.out]; exact loA_blk A c start⟩)
set_option maxRecDepth 100000 in
set_option maxHeartbeats 1000000 in
theorem step_2 (r c pos start : Nat) (A : Option Addr) (l : List UInt8) (w : World) (k : Nat) (h : Zin w r A c l pos start) (hl : l.length ≤ 2147483647) (hp : pos ≤ l.length) (hs : start ≤ pos) (hk : pos + k ≤ l.length) :
    Calls Tryd.prog 9 #[.pointer (some ⟨r, 0, none⟩), .agg #[.int .i64 2, .int .i64 (k : Int)]] w (StepRet r A c l (pos + k) start 0 0 [] w) := by
  have h2 := (h.alloc (stp 2 (k : Int))).alloc res0
  have hlt := h.lt
  have hA := h.adr
  have hro := h.room
  have t1 : IntKind.i64.wrap ((pos : Int) + (k : Int)) = (pos : Int) + (k : Int) := IntWalk.i64_in _ (by omega)
  unfold stp res0 got0 gotV at h2
  have H2 := hide h2
  have HA := hide hA
  have H := hide h
  clear h h2 hA
  go_enter Tryd.func9, Tryd.ntmps9
  go_wp2_with fail
  refine (inside_yes r c pos start _ l _ k H2.out hl hp (by omega)).mono ?_
  rintro e w1 ⟨rfl, m, hm⟩
  obtain ⟨Z1, G1, s0, s1, hsz⟩ := stp_behind 2 (k : Int) hlt H2.out hm
  clear hm H2
  have c0 := Z1.c0
  have c2 := Z1.c2
  have f2 := Z1.fr 2
  have HZ := hide Z1
  have HG := hide G1
  clear Z1 G1
  go_wp2
  obtain ⟨w2, hw2⟩ : ∃ w2, (w1.setCell ⟨r, 2, none⟩ (.int .i64 ((pos : Int) + (k : Int)))).drew = w2 := ⟨_, rfl⟩
  have hz2 : Zin w2 r A c l (pos + k) start := by rw [← hw2]; have t := HZ.out.setPos (pos + k); simp only [Int.natCast_add] at t; exact t.drewN 1
  have hg2 : ((w.alloc (stp 2 (k : Int))).alloc res0).grownBy w2 (some r) := by rw [← hw2]; exact (grown_set HG.out (p := ⟨r, 2, none⟩) (.inl rfl) _).trans (grown_drewN _ 1 _)
  have Hz2 := hide hz2
  have Hg2 := hide hg2
  have Hw2 := hide hw2
  clear hz2 hg2 hw2
  go_region
  all_goals (
    rw [Hw2.out]
    have fin := zin_fin (stp 2 (k : Int)) hlt HA.out Hz2.out Hg2.out
    have st := run_st36 fin.1 rfl (0) (0) none 0 0
    unfold gotV at st
    have Fin := hide fin
    have Hst := hide st
    clear fin st
    go_wp2_with ((with_reducible refine wpList_store_run Hst.out _ _ ?_ rfl ?_ ?_ ?_); (rfl); (rfl); (rfl))
    refine bodyPost_ret (v := .tuple #[.agg (gotV 0 0 none 0 0), .bool true]) (results_row_tmp rfl _ _ (w.heap.size + 1) _ (gotV 0 0 none 0 0) (0, 0) _ (.bool true) rfl rfl (Fin.out.1.set) Tryd.underlying36 rfl info36) rfl ?_
    exact ⟨_, _, rfl, BS.nil _ _, (Fin.out.2 _).1, (Fin.out.2 _).2, fun hz => absurd hz (by simp)⟩
    )
set_option maxRecDepth 100000 in
set_option maxHeartbeats 1000000 in
theorem step_8 (r c pos start : Nat) (A : Option Addr) (l : List UInt8) (w : World) (k : Nat) (h : Zin w r A c l pos start) (hl : l.length ≤ 2147483647) (hp : pos ≤ l.length) (hs : start ≤ pos) (hk : start + k ≤ l.length) :
    Calls Tryd.prog 9 #[.pointer (some ⟨r, 0, none⟩), .agg #[.int .i64 8, .int .i64 (k : Int)]] w (StepRet r A c l (start + k) start 0 0 [] w) := by
  have h2 := (h.alloc (stp 8 (k : Int))).alloc res0
  have hlt := h.lt
  have hA := h.adr
  have hro := h.room
  have c0 := h.c0
  have c1 := h.c1
  have c2 := h.c2
  have t8 : IntKind.i64.wrap ((start : Int) + (k : Int)) = (start : Int) + (k : Int) := IntWalk.i64_in _ (by omega)
  have t9 : IntKind.i64.wrap ((l.length : Int) - (start : Int)) = (l.length : Int) - (start : Int) := IntWalk.i64_in _ (by omega)
  have b1 : decide ((l.length : Int) - (start : Int) < (k : Int)) = false := decide_eq_false (by omega)
  have b0 : decide ((k : Int) < 0) = false := decide_eq_false (by omega)
  unfold stp res0 got0 gotV at h2
  have H2 := hide h2
  have HA := hide hA
  have H := hide h
  clear h h2 hA
  go_enter Tryd.func9, Tryd.ntmps9
  go_wp2
  go_quiet (fail)
  go_upto_region 28 with (fail)
  obtain ⟨w1, hw1⟩ : ∃ w1, (((w.alloc (.cells #[.int .i64 8, .int .i64 (k : Int)] 33)).alloc (.cells #[.int .i64 0, .int .i64 0, .slice none 0 0] 36)).drewN nq) = w1 := ⟨_, rfl⟩
  obtain ⟨Z1, G1, s0, s1, hsz⟩ := stp_behind 8 ((k : Int)) hlt H2.out hw1.symm
  rw [hw1]
  clear hw1 H2
  have c0 := Z1.c0
  have c1 := Z1.c1
  have c2 := Z1.c2
  have f2 := Z1.fr 2
  have HZ := hide Z1
  have HG := hide G1
  clear Z1 G1
  obtain ⟨w2, hw2⟩ : ∃ w2, (w1.setCell ⟨r, 2, none⟩ (.int .i64 ((start : Int) + (k : Int)))).drew = w2 := ⟨_, rfl⟩
  have hz2 : Zin w2 r A c l (start + k) start := by rw [← hw2]; have t := HZ.out.setPos (start + k); simp only [Int.natCast_add] at t; exact t.drewN 1
  have hg2 : ((w.alloc (stp 8 (k : Int))).alloc res0).grownBy w2 (some r) := by rw [← hw2]; exact (grown_set HG.out (p := ⟨r, 2, none⟩) (.inl rfl) _).trans (grown_drewN _ 1 _)
  have Hz2 := hide hz2
  have Hg2 := hide hg2
  have Hw2 := hide hw2
  clear hz2 hg2 hw2
  go_region
  all_goals (
    rw [Hw2.out]
    have fin := zin_fin (stp 8 (k : Int)) hlt HA.out Hz2.out Hg2.out
    have st := run_st36 fin.1 rfl (0) (0) none 0 0
    unfold gotV at st
    have Fin := hide fin
    have Hst := hide st
    clear fin st
    go_wp2_with ((with_reducible refine wpList_store_run Hst.out _ _ ?_ rfl ?_ ?_ ?_); (rfl); (rfl); (rfl))
    refine bodyPost_ret (v := .tuple #[.agg (gotV 0 0 none 0 0), .bool true]) (results_row_tmp rfl _ _ (w.heap.size + 1) _ (gotV 0 0 none 0 0) (0, 0) _ (.bool true) rfl rfl (Fin.out.1.set) Tryd.underlying36 rfl info36) rfl ?_
    exact ⟨_, _, rfl, BS.nil _ _, (Fin.out.2 _).1, (Fin.out.2 _).2, fun hz => absurd hz (by simp)⟩
    )
set_option maxRecDepth 100000 in
set_option maxHeartbeats 1000000 in
theorem step_bad8a (r c pos start : Nat) (A : Option Addr) (l : List UInt8) (w : World) (n : Int) (h : Zin w r A c l pos start) (hl : l.length ≤ 2147483647) (hp : pos ≤ l.length) (hs : start ≤ pos) (hn : n < 0) :
    Calls Tryd.prog 9 #[.pointer (some ⟨r, 0, none⟩), .agg #[.int .i64 8, .int .i64 n]] w (StepBad r A c l w) := by
  have h2 := (h.alloc (stp 8 n)).alloc res0
  have hlt := h.lt
  have hA := h.adr
  have hro := h.room
  have c0 := h.c0
  have c1 := h.c1
  have c2 := h.c2
  have t9 : IntKind.i64.wrap ((l.length : Int) - (start : Int)) = (l.length : Int) - (start : Int) := IntWalk.i64_in _ (by omega)
  have b0 : decide (n < 0) = true := decide_eq_true hn
  unfold stp res0 got0 gotV at h2
  have H2 := hide h2
  have HA := hide hA
  have H := hide h
  clear h h2 hA
  go_enter Tryd.func9, Tryd.ntmps9
  go_wp2
  go_quiet (fail)
  go_upto_region 27 with (fail)
  have fin := zin_fin (stp 8 n) hlt HA.out (H2.out.drewN nq) (grown_drewN _ nq (some r))
  have st := run_st36 fin.1 rfl (0) (0) none 0 0
  unfold gotV at st
  have Fin := hide fin
  have Hst := hide st
  clear fin st
  go_wp2_with ((with_reducible refine wpList_store_run Hst.out _ _ ?_ rfl ?_ ?_ ?_); (rfl); (rfl); (rfl))
  refine bodyPost_ret (v := .tuple #[.agg (gotV 0 0 none 0 0), .bool false]) (results_row_tmp rfl _ _ (w.heap.size + 1) _ (gotV 0 0 none 0 0) (0, 0) _ (.bool false) rfl rfl (Fin.out.1.set) Tryd.underlying36 rfl info36) rfl ?_
  exact ⟨rfl, ⟨_, _, (Fin.out.2 _).1⟩, (Fin.out.2 _).2⟩
set_option maxRecDepth 100000 in
set_option maxHeartbeats 1000000 in
theorem step_bad8b (r c pos start : Nat) (A : Option Addr) (l : List UInt8) (w : World) (n : Int) (h : Zin w r A c l pos start) (hl : l.length ≤ 2147483647) (hp : pos ≤ l.length) (hs : start ≤ pos) (hn : ¬ n < 0) (hn2 : (l.length : Int) - (start : Int) < n) :
    Calls Tryd.prog 9 #[.pointer (some ⟨r, 0, none⟩), .agg #[.int .i64 8, .int .i64 n]] w (StepBad r A c l w) := by
  have h2 := (h.alloc (stp 8 n)).alloc res0
  have hlt := h.lt
  have hA := h.adr
  have hro := h.room
  have c0 := h.c0
  have c1 := h.c1
  have c2 := h.c2
  have t9 : IntKind.i64.wrap ((l.length : Int) - (start : Int)) = (l.length : Int) - (start : Int) := IntWalk.i64_in _ (by omega)
  have b0 : decide (n < 0) = false := decide_eq_false hn
  have b1 : decide ((l.length : Int) - (start : Int) < n) = true := decide_eq_true hn2
  unfold stp res0 got0 gotV at h2
  have H2 := hide h2
  have HA := hide hA
  have H := hide h
  clear h h2 hA
  go_enter Tryd.func9, Tryd.ntmps9
  go_wp2
  go_quiet (fail)
  go_upto_region 27 with (fail)
  have fin := zin_fin (stp 8 n) hlt HA.out (H2.out.drewN nq) (grown_drewN _ nq (some r))
  have st := run_st36 fin.1 rfl (0) (0) none 0 0
  unfold gotV at st
  have Fin := hide fin
  have Hst := hide st
  clear fin st
  go_wp2_with ((with_reducible refine wpList_store_run Hst.out _ _ ?_ rfl ?_ ?_ ?_); (rfl); (rfl); (rfl))
  refine bodyPost_ret (v := .tuple #[.agg (gotV 0 0 none 0 0), .bool false]) (results_row_tmp rfl _ _ (w.heap.size + 1) _ (gotV 0 0 none 0 0) (0, 0) _ (.bool false) rfl rfl (Fin.out.1.set) Tryd.underlying36 rfl info36) rfl ?_
  exact ⟨rfl, ⟨_, _, (Fin.out.2 _).1⟩, (Fin.out.2 _).2⟩
set_option maxRecDepth 100000 in
set_option maxHeartbeats 1000000 in
theorem step_3 (r c pos start : Nat) (A : Option Addr) (l : List UInt8) (w : World) (n : Int) (x : UInt8) (h : Zin w r A c l pos start) (hl : l.length ≤ 2147483647) (hp : pos ≤ l.length) (hs : start ≤ pos) (hx : l[pos]? = some x) (h128 : x.toNat < 128) :
    Calls Tryd.prog 9 #[.pointer (some ⟨r, 0, none⟩), .agg #[.int .i64 3, .int .i64 n]] w (StepRet r A c l (pos + 1) start 0 0 [] w) := by
  have h2 := (h.alloc (stp 3 n)).alloc res0
  have hlt := h.lt
  have hA := h.adr
  have hro := h.room
  have hxl := (List.getElem?_eq_some_iff.1 hx).1
  have c0 := h.c0
  have c1 := h.c1
  have c2 := h.c2
  have f1 := h.fr 1
  have f2 := h.fr 2
  have be : ((pos : Int) == (l.length : Int)) = false := by rw [beq_eq_false_iff_ne]; omega
  have b128 : decide ((128 : Int) ≤ (x.toNat : Int)) = false := decide_eq_false (by omega)
  unfold stp res0 got0 gotV at h2
  have H2 := hide h2
  have HA := hide hA
  have H := hide h
  clear h h2 hA
  go_enter Tryd.func9, Tryd.ntmps9
  obtain ⟨b, o, rfl, cell⟩ := H2.out.bs.at_ hx
  clear hx
  go_wp2
  go_quiet (fail)
  go_upto_region 35 with (fail)
  have fin := zin_fin (stp 3 n) hlt HA.out ((H2.out.drewN nq).setPos (pos + 1)) (grown_set (grown_drewN _ nq (some r)) (p := ⟨r, 2, none⟩) (.inl rfl) (.int .i64 ((pos + 1 : Nat) : Int)))
  simp only [Int.natCast_add, Int.natCast_one] at fin
  have st := run_st36 fin.1 rfl (0) (0) none 0 0
  unfold gotV at st
  have Fin := hide fin
  have Hst := hide st
  clear fin st
  go_wp2_with ((with_reducible refine wpList_store_run Hst.out _ _ ?_ rfl ?_ ?_ ?_); (rfl); (rfl); (rfl))
  refine bodyPost_ret (v := .tuple #[.agg (gotV 0 0 none 0 0), .bool true]) (results_row_tmp rfl _ _ (w.heap.size + 1) _ (gotV 0 0 none 0 0) (0, 0) _ (.bool true) rfl rfl (Fin.out.1.set) Tryd.underlying36 rfl info36) rfl ?_
  exact ⟨_, _, rfl, BS.nil _ _, (Fin.out.2 _).1, (Fin.out.2 _).2, fun hz => absurd hz (by simp)⟩
set_option maxRecDepth 100000 in
set_option maxHeartbeats 1000000 in
theorem step_bad3h (r c pos start : Nat) (A : Option Addr) (l : List UInt8) (w : World) (n : Int) (x : UInt8) (h : Zin w r A c l pos start) (hl : l.length ≤ 2147483647) (hp : pos ≤ l.length) (hs : start ≤ pos) (hx : l[pos]? = some x) (h128 : 128 ≤ x.toNat) :
    Calls Tryd.prog 9 #[.pointer (some ⟨r, 0, none⟩), .agg #[.int .i64 3, .int .i64 n]] w (StepBad r A c l w) := by
  have h2 := (h.alloc (stp 3 n)).alloc res0
  have hlt := h.lt
  have hA := h.adr
  have hro := h.room
  have hxl := (List.getElem?_eq_some_iff.1 hx).1
  have c0 := h.c0
  have c1 := h.c1
  have c2 := h.c2
  have f1 := h.fr 1
  have f2 := h.fr 2
  have be : ((pos : Int) == (l.length : Int)) = false := by rw [beq_eq_false_iff_ne]; omega
  have b128 : decide ((128 : Int) ≤ (x.toNat : Int)) = true := decide_eq_true (by omega)
  unfold stp res0 got0 gotV at h2
  have H2 := hide h2
  have HA := hide hA
  have H := hide h
  clear h h2 hA
  go_enter Tryd.func9, Tryd.ntmps9
  obtain ⟨b, o, rfl, cell⟩ := H2.out.bs.at_ hx
  clear hx
  go_wp2
  go_quiet (fail)
  go_upto_region 13 with (fail)
  have fin := zin_fin (stp 3 n) hlt HA.out (H2.out.drewN nq) (grown_drewN _ nq (some r))
  have st := run_st36 fin.1 rfl (0) (0) none 0 0
  unfold gotV at st
  have Fin := hide fin
  have Hst := hide st
  clear fin st
  go_wp2_with ((with_reducible refine wpList_store_run Hst.out _ _ ?_ rfl ?_ ?_ ?_); (rfl); (rfl); (rfl))
  refine bodyPost_ret (v := .tuple #[.agg (gotV 0 0 none 0 0), .bool false]) (results_row_tmp rfl _ _ (w.heap.size + 1) _ (gotV 0 0 none 0 0) (0, 0) _ (.bool false) rfl rfl (Fin.out.1.set) Tryd.underlying36 rfl info36) rfl ?_
  exact ⟨rfl, ⟨_, _, (Fin.out.2 _).1⟩, (Fin.out.2 _).2⟩
set_option maxRecDepth 100000 in
set_option maxHeartbeats 1000000 in
theorem step_bad3e (r c pos start : Nat) (A : Option Addr) (l : List UInt8) (w : World) (n : Int) (h : Zin w r A c l pos start) (hl : l.length ≤ 2147483647) (hp : pos ≤ l.length) (hs : start ≤ pos) (he : pos = l.length) :
    Calls Tryd.prog 9 #[.pointer (some ⟨r, 0, none⟩), .agg #[.int .i64 3, .int .i64 n]] w (StepBad r A c l w) := by
  have h2 := (h.alloc (stp 3 n)).alloc res0
  have hlt := h.lt
  have hA := h.adr
  have hro := h.room
  have c0 := h.c0
  have c1 := h.c1
  have c2 := h.c2
  have f1 := h.fr 1
  have f2 := h.fr 2
  have be : ((pos : Int) == (l.length : Int)) = true := by rw [beq_iff_eq]; omega
  have He := hide he
  clear he
  unfold stp res0 got0 gotV at h2
  have H2 := hide h2
  have HA := hide hA
  have H := hide h
  clear h h2 hA
  go_enter Tryd.func9, Tryd.ntmps9
  go_wp2
  go_quiet (fail)
  go_upto_region 13 with (fail)
  have fin := zin_fin (stp 3 n) hlt HA.out (H2.out.drewN nq) (grown_drewN _ nq (some r))
  have st := run_st36 fin.1 rfl (0) (0) none 0 0
  unfold gotV at st
  have Fin := hide fin
  have Hst := hide st
  clear fin st
  go_wp2_with ((with_reducible refine wpList_store_run Hst.out _ _ ?_ rfl ?_ ?_ ?_); (rfl); (rfl); (rfl))
  refine bodyPost_ret (v := .tuple #[.agg (gotV 0 0 none 0 0), .bool false]) (results_row_tmp rfl _ _ (w.heap.size + 1) _ (gotV 0 0 none 0 0) (0, 0) _ (.bool false) rfl rfl (Fin.out.1.set) Tryd.underlying36 rfl info36) rfl ?_
  exact ⟨rfl, ⟨_, _, (Fin.out.2 _).1⟩, (Fin.out.2 _).2⟩
set_option maxRecDepth 100000 in
set_option maxHeartbeats 1000000 in
theorem step_bad (r c pos start : Nat) (A : Option Addr) (l : List UInt8) (w : World) (kd n : Int) (h : Zin w r A c l pos start) (hl : l.length ≤ 2147483647) (hp : pos ≤ l.length) (hs : start ≤ pos) (hk : kd ≠ 0 ∧ kd ≠ 1 ∧ kd ≠ 2 ∧ kd ≠ 3 ∧ kd ≠ 4 ∧ kd ≠ 5 ∧ kd ≠ 6 ∧ kd ≠ 7 ∧ kd ≠ 8 ∧ kd ≠ 9 ∧ kd ≠ 10 ∧ kd ≠ 11 ∧ kd ≠ 12) :
    Calls Tryd.prog 9 #[.pointer (some ⟨r, 0, none⟩), .agg #[.int .i64 kd, .int .i64 n]] w (StepBad r A c l w) := by
  have h2 := (h.alloc (stp kd n)).alloc res0
  have hlt := h.lt
  have hA := h.adr
  have hro := h.room
  obtain ⟨n0, n1, n2, n3, n4, n5, n6, n7, n8, n9, n10, n11, n12⟩ := hk
  have b0 : (kd == 0) = false := beq_eq_false_iff_ne.2 n0
  have b1 : (kd == 1) = false := beq_eq_false_iff_ne.2 n1
  have b2 : (kd == 2) = false := beq_eq_false_iff_ne.2 n2
  have b3 : (kd == 3) = false := beq_eq_false_iff_ne.2 n3
  have b4 : (kd == 4) = false := beq_eq_false_iff_ne.2 n4
  have b5 : (kd == 5) = false := beq_eq_false_iff_ne.2 n5
  have b6 : (kd == 6) = false := beq_eq_false_iff_ne.2 n6
  have b7 : (kd == 7) = false := beq_eq_false_iff_ne.2 n7
  have b8 : (kd == 8) = false := beq_eq_false_iff_ne.2 n8
  have b9 : (kd == 9) = false := beq_eq_false_iff_ne.2 n9
  have b10 : (kd == 10) = false := beq_eq_false_iff_ne.2 n10
  have b11 : (kd == 11) = false := beq_eq_false_iff_ne.2 n11
  have b12 : (kd == 12) = false := beq_eq_false_iff_ne.2 n12
  clear n0 n1 n2 n3 n4 n5 n6 n7 n8 n9 n10 n11 n12
  unfold stp res0 got0 gotV at h2
  have H2 := hide h2
  have HA := hide hA
  have H := hide h
  clear h h2 hA
  go_enter Tryd.func9, Tryd.ntmps9
  go_upto_region 2 with (fail)
  have fin := zin_fin (stp kd n) hlt HA.out H2.out (World.grownBy.refl _ (some r))
  have st := run_st36 fin.1 rfl (0) (0) none 0 0
  unfold gotV at st
  have Fin := hide fin
  have Hst := hide st
  clear fin st
  go_wp2_with ((with_reducible refine wpList_store_run Hst.out _ _ ?_ rfl ?_ ?_ ?_); (rfl); (rfl); (rfl))
  refine bodyPost_ret (v := .tuple #[.agg (gotV 0 0 none 0 0), .bool false]) (results_row_tmp rfl _ _ (w.heap.size + 1) _ (gotV 0 0 none 0 0) (0, 0) _ (.bool false) rfl rfl (Fin.out.1.set) Tryd.underlying36 rfl info36) rfl ?_
  exact ⟨rfl, ⟨_, _, (Fin.out.2 _).1⟩, (Fin.out.2 _).2⟩
end Go.Proofs.YthfnahcaoeggbaaDoor
