/- The steps of the shop's own input. Conditions: lengths below 2^31. -/
import Derived.Test.YthfnahcaoeggbaaDoorZin
namespace Go.Proofs.YthfnahcaoeggbaaDoor
open Go.RowKit
set_option linter.unusedVariables false

set_option maxHeartbeats 1000000 in
theorem look_bad0 (r c pos start : Nat) (A : Option Addr) (l : List UInt8) (w : World) (n : Int) (h : Zin w r A c l pos start) (hl : l.length ≤ 2147483647) (hp : pos ≤ l.length) (hs : start ≤ pos) (hi : isIn l pos n = false) :
    Calls Tryd.prog 13 #[.pointer (some ⟨r, 0, none⟩), .agg #[.int .i64 0, .int .i64 n]] w (StepBad r A c l w) := by
  have h2 := (h.alloc (stp 0 n)).alloc res0
  have hlt := h.lt
  have hA := h.adr

  unfold stp res0 got0 gotV at h2
  have H2 := hide h2
  have HA := hide hA
  clear h h2 hA
  go_enter Tryd.func13, Tryd.ntmps13
  go_wp2_with fail
  refine (inside_no r c pos start _ l _ n H2.out hl hp hi).mono ?_
  rintro e w1 ⟨rfl, m, rfl⟩
  have fin := zin_fin (stp 0 n) hlt HA.out (H2.out.drewN m) (grown_drewN _ m _)
  have st := run_st36 fin.1 rfl (0) (0) none 0 0
  unfold gotV at st
  have Fin := hide fin
  have Hst := hide st
  clear fin st
  go_wp2_with ((with_reducible refine wpList_store_run Hst.out _ _ ?_ rfl ?_ ?_ ?_); (rfl); (rfl); (rfl))
  refine bodyPost_ret (v := .tuple #[.agg (gotV 0 0 none 0 0), .bool false]) (results_row_tmp rfl _ _ (w.heap.size + 1) _ (gotV 0 0 none 0 0) (0, 0) _ (.bool false) rfl rfl (Fin.out.1.set) Tryd.underlying36 rfl info36) rfl ?_
  exact ⟨rfl, ⟨_, _, (Fin.out.2 _).1⟩, (Fin.out.2 _).2⟩
set_option maxHeartbeats 1000000 in
theorem look_bad1 (r c pos start : Nat) (A : Option Addr) (l : List UInt8) (w : World) (n : Int) (h : Zin w r A c l pos start) (hl : l.length ≤ 2147483647) (hp : pos ≤ l.length) (hs : start ≤ pos) (hi : isIn l pos n = false) :
    Calls Tryd.prog 13 #[.pointer (some ⟨r, 0, none⟩), .agg #[.int .i64 1, .int .i64 n]] w (StepBad r A c l w) := by
  have h2 := (h.alloc (stp 1 n)).alloc res0
  have hlt := h.lt
  have hA := h.adr

  unfold stp res0 got0 gotV at h2
  have H2 := hide h2
  have HA := hide hA
  clear h h2 hA
  go_enter Tryd.func13, Tryd.ntmps13
  go_wp2_with fail
  refine (inside_no r c pos start _ l _ n H2.out hl hp hi).mono ?_
  rintro e w1 ⟨rfl, m, rfl⟩
  have fin := zin_fin (stp 1 n) hlt HA.out (H2.out.drewN m) (grown_drewN _ m _)
  have st := run_st36 fin.1 rfl (0) (0) none 0 0
  unfold gotV at st
  have Fin := hide fin
  have Hst := hide st
  clear fin st
  go_wp2_with ((with_reducible refine wpList_store_run Hst.out _ _ ?_ rfl ?_ ?_ ?_); (rfl); (rfl); (rfl))
  refine bodyPost_ret (v := .tuple #[.agg (gotV 0 0 none 0 0), .bool false]) (results_row_tmp rfl _ _ (w.heap.size + 1) _ (gotV 0 0 none 0 0) (0, 0) _ (.bool false) rfl rfl (Fin.out.1.set) Tryd.underlying36 rfl info36) rfl ?_
  exact ⟨rfl, ⟨_, _, (Fin.out.2 _).1⟩, (Fin.out.2 _).2⟩
set_option maxHeartbeats 1000000 in
theorem look_bad12 (r c pos start : Nat) (A : Option Addr) (l : List UInt8) (w : World) (n : Int) (h : Zin w r A c l pos start) (hl : l.length ≤ 2147483647) (hp : pos ≤ l.length) (hs : start ≤ pos) (hi : isIn l pos n = false) :
    Calls Tryd.prog 13 #[.pointer (some ⟨r, 0, none⟩), .agg #[.int .i64 12, .int .i64 n]] w (StepBad r A c l w) := by
  have h2 := (h.alloc (stp 12 n)).alloc res0
  have hlt := h.lt
  have hA := h.adr

  unfold stp res0 got0 gotV at h2
  have H2 := hide h2
  have HA := hide hA
  clear h h2 hA
  go_enter Tryd.func13, Tryd.ntmps13
  go_wp2_with fail
  refine (inside_no r c pos start _ l _ n H2.out hl hp hi).mono ?_
  rintro e w1 ⟨rfl, m, rfl⟩
  have fin := zin_fin (stp 12 n) hlt HA.out (H2.out.drewN m) (grown_drewN _ m _)
  have st := run_st36 fin.1 rfl (0) (0) none 0 0
  unfold gotV at st
  have Fin := hide fin
  have Hst := hide st
  clear fin st
  go_wp2_with ((with_reducible refine wpList_store_run Hst.out _ _ ?_ rfl ?_ ?_ ?_); (rfl); (rfl); (rfl))
  refine bodyPost_ret (v := .tuple #[.agg (gotV 0 0 none 0 0), .bool false]) (results_row_tmp rfl _ _ (w.heap.size + 1) _ (gotV 0 0 none 0 0) (0, 0) _ (.bool false) rfl rfl (Fin.out.1.set) Tryd.underlying36 rfl info36) rfl ?_
  exact ⟨rfl, ⟨_, _, (Fin.out.2 _).1⟩, (Fin.out.2 _).2⟩
set_option maxHeartbeats 1000000 in
theorem look_12e (r c pos start : Nat) (A : Option Addr) (l : List UInt8) (w : World) (k : Nat) (h : Zin w r A c l pos start) (hl : l.length ≤ 2147483647) (hp : pos ≤ l.length) (hs : start ≤ pos) (hk : pos + k = l.length) :
    Calls Tryd.prog 13 #[.pointer (some ⟨r, 0, none⟩), .agg #[.int .i64 12, .int .i64 (k : Int)]] w (StepRet r A c l (pos) (start) (1) (0) ([]) w) := by
  have h2 := (h.alloc (stp 12 (k : Int))).alloc res0
  have hlt := h.lt
  have hA := h.adr

  have t1 : IntKind.i64.wrap ((pos : Int) + (k : Int)) = (pos : Int) + (k : Int) := IntWalk.i64_in _ (by omega)
  have ko : ((pos : Int) + (k : Int) == (l.length : Int)) = true := by rw [beq_iff_eq]; omega
  unfold stp res0 got0 gotV at h2
  have H2 := hide h2
  have HA := hide hA
  clear h h2 hA
  go_enter Tryd.func13, Tryd.ntmps13
  go_wp2_with fail
  refine (inside_yes r c pos start _ l _ k H2.out hl hp (by omega)).mono ?_
  rintro e w1 ⟨rfl, m, hm⟩
  obtain ⟨Z1, G1, s0, s1, hsz⟩ := stp_behind 12 (k : Int) hlt H2.out hm
  clear hm H2
  have c0 := Z1.c0
  have c2 := Z1.c2
  have HZ := hide Z1
  have HG := hide G1
  clear Z1 G1
  go_wp2
  go_quiet (fail)
  have fin := zin_fin (stp 12 (k : Int)) hlt HA.out (HZ.out.drewN nq) (HG.out.trans (grown_drewN _ nq _))
  have st := run_st36 fin.1 rfl (1) (0) none 0 0
  unfold gotV at st
  have Fin := hide fin
  have Hst := hide st
  clear fin st
  go_wp2_with ((with_reducible refine wpList_store_run Hst.out _ _ ?_ rfl ?_ ?_ ?_); (rfl); (rfl); (rfl))
  refine bodyPost_ret (v := .tuple #[.agg (gotV (1) (0) none 0 0), .bool true]) (results_row_tmp rfl _ _ (w.heap.size + 1) _ (gotV (1) (0) none 0 0) (0, 0) _ (.bool true) rfl rfl (Fin.out.1.set) Tryd.underlying36 rfl info36) rfl ?_
  exact ⟨_, _, rfl, BS.nil _ _, (Fin.out.2 _).1, (Fin.out.2 _).2, fun hz => absurd hz (by simp)⟩
set_option maxHeartbeats 1000000 in
theorem look_12n (r c pos start : Nat) (A : Option Addr) (l : List UInt8) (w : World) (k : Nat) (h : Zin w r A c l pos start) (hl : l.length ≤ 2147483647) (hp : pos ≤ l.length) (hs : start ≤ pos) (hk : pos + k < l.length) :
    Calls Tryd.prog 13 #[.pointer (some ⟨r, 0, none⟩), .agg #[.int .i64 12, .int .i64 (k : Int)]] w (StepRet r A c l (pos) (start) (0) (0) ([]) w) := by
  have h2 := (h.alloc (stp 12 (k : Int))).alloc res0
  have hlt := h.lt
  have hA := h.adr

  have t1 : IntKind.i64.wrap ((pos : Int) + (k : Int)) = (pos : Int) + (k : Int) := IntWalk.i64_in _ (by omega)
  have ko : ((pos : Int) + (k : Int) == (l.length : Int)) = false := by rw [beq_eq_false_iff_ne]; omega
  unfold stp res0 got0 gotV at h2
  have H2 := hide h2
  have HA := hide hA
  clear h h2 hA
  go_enter Tryd.func13, Tryd.ntmps13
  go_wp2_with fail
  refine (inside_yes r c pos start _ l _ k H2.out hl hp (by omega)).mono ?_
  rintro e w1 ⟨rfl, m, hm⟩
  obtain ⟨Z1, G1, s0, s1, hsz⟩ := stp_behind 12 (k : Int) hlt H2.out hm
  clear hm H2
  have c0 := Z1.c0
  have c2 := Z1.c2
  have HZ := hide Z1
  have HG := hide G1
  clear Z1 G1
  go_wp2
  go_quiet (fail)
  have fin := zin_fin (stp 12 (k : Int)) hlt HA.out (HZ.out.drewN nq) (HG.out.trans (grown_drewN _ nq _))
  have st := run_st36 fin.1 rfl (0) (0) none 0 0
  unfold gotV at st
  have Fin := hide fin
  have Hst := hide st
  clear fin st
  go_wp2_with ((with_reducible refine wpList_store_run Hst.out _ _ ?_ rfl ?_ ?_ ?_); (rfl); (rfl); (rfl))
  refine bodyPost_ret (v := .tuple #[.agg (gotV (0) (0) none 0 0), .bool true]) (results_row_tmp rfl _ _ (w.heap.size + 1) _ (gotV (0) (0) none 0 0) (0, 0) _ (.bool true) rfl rfl (Fin.out.1.set) Tryd.underlying36 rfl info36) rfl ?_
  exact ⟨_, _, rfl, BS.nil _ _, (Fin.out.2 _).1, (Fin.out.2 _).2, fun hz => absurd hz (by simp)⟩
set_option maxHeartbeats 1000000 in
theorem look_0e (r c pos start : Nat) (A : Option Addr) (l : List UInt8) (w : World) (k : Nat) (h : Zin w r A c l pos start) (hl : l.length ≤ 2147483647) (hp : pos ≤ l.length) (hs : start ≤ pos) (hk : pos + k = l.length) :
    Calls Tryd.prog 13 #[.pointer (some ⟨r, 0, none⟩), .agg #[.int .i64 0, .int .i64 (k : Int)]] w (StepRet r A c l (pos) (start) (0) (0) ([]) w) := by
  have h2 := (h.alloc (stp 0 (k : Int))).alloc res0
  have hlt := h.lt
  have hA := h.adr

  have t1 : IntKind.i64.wrap ((pos : Int) + (k : Int)) = (pos : Int) + (k : Int) := IntWalk.i64_in _ (by omega)
  have ko : ((pos : Int) + (k : Int) == (l.length : Int)) = true := by rw [beq_iff_eq]; omega
  unfold stp res0 got0 gotV at h2
  have H2 := hide h2
  have HA := hide hA
  clear h h2 hA
  go_enter Tryd.func13, Tryd.ntmps13
  go_wp2_with fail
  refine (inside_yes r c pos start _ l _ k H2.out hl hp (by omega)).mono ?_
  rintro e w1 ⟨rfl, m, hm⟩
  obtain ⟨Z1, G1, s0, s1, hsz⟩ := stp_behind 0 (k : Int) hlt H2.out hm
  clear hm H2
  have c0 := Z1.c0
  have c2 := Z1.c2
  have HZ := hide Z1
  have HG := hide G1
  clear Z1 G1
  go_wp2
  go_quiet (fail)
  have fin := zin_fin (stp 0 (k : Int)) hlt HA.out (HZ.out.drewN nq) (HG.out.trans (grown_drewN _ nq _))
  have st := run_st36 fin.1 rfl (0) (0) none 0 0
  unfold gotV at st
  have Fin := hide fin
  have Hst := hide st
  clear fin st
  go_wp2_with ((with_reducible refine wpList_store_run Hst.out _ _ ?_ rfl ?_ ?_ ?_); (rfl); (rfl); (rfl))
  refine bodyPost_ret (v := .tuple #[.agg (gotV (0) (0) none 0 0), .bool true]) (results_row_tmp rfl _ _ (w.heap.size + 1) _ (gotV (0) (0) none 0 0) (0, 0) _ (.bool true) rfl rfl (Fin.out.1.set) Tryd.underlying36 rfl info36) rfl ?_
  exact ⟨_, _, rfl, BS.nil _ _, (Fin.out.2 _).1, (Fin.out.2 _).2, fun hz => absurd hz (by simp)⟩
set_option maxHeartbeats 1000000 in
theorem look_0n (r c pos start : Nat) (A : Option Addr) (l : List UInt8) (w : World) (k : Nat) (x : UInt8) (h : Zin w r A c l pos start) (hl : l.length ≤ 2147483647) (hp : pos ≤ l.length) (hs : start ≤ pos) (hx : l[pos + k]? = some x) :
    Calls Tryd.prog 13 #[.pointer (some ⟨r, 0, none⟩), .agg #[.int .i64 0, .int .i64 (k : Int)]] w (StepRet r A c l (pos) (start) ((x.toNat : Int)) (0) ([]) w) := by
  have h2 := (h.alloc (stp 0 (k : Int))).alloc res0
  have hlt := h.lt
  have hA := h.adr

  have hk := (List.getElem?_eq_some_iff.1 hx).1
  have t1 : IntKind.i64.wrap ((pos : Int) + (k : Int)) = (pos : Int) + (k : Int) := IntWalk.i64_in _ (by omega)
  have ko : ((pos : Int) + (k : Int) == (l.length : Int)) = false := by rw [beq_eq_false_iff_ne]; omega
  have hx256 := x.toNat_lt
  have hkl := (List.getElem?_eq_some_iff.1 hx).1
  have e1 : ((pos : Int) + (k : Int)).toNat = pos + k := by omega
  have hk1 : (pos : Int) + (k : Int) < (l.length : Int) := by omega
  unfold stp res0 got0 gotV at h2
  have H2 := hide h2
  have HA := hide hA
  clear h h2 hA
  go_enter Tryd.func13, Tryd.ntmps13
  go_wp2_with fail
  refine (inside_yes r c pos start _ l _ k H2.out hl hp (by omega)).mono ?_
  rintro e w1 ⟨rfl, m, hm⟩
  obtain ⟨Z1, G1, s0, s1, hsz⟩ := stp_behind 0 (k : Int) hlt H2.out hm
  clear hm H2
  have c0 := Z1.c0
  have c2 := Z1.c2
  obtain ⟨b, o, rfl, cell⟩ := Z1.bs.at_ hx
  clear hx
  have HZ := hide Z1
  have HG := hide G1
  clear Z1 G1
  go_wp2
  go_quiet (fail)
  have fin := zin_fin (stp 0 (k : Int)) hlt HA.out (HZ.out.drewN nq) (HG.out.trans (grown_drewN _ nq _))
  have st := run_st36 fin.1 rfl ((x.toNat : Int)) (0) none 0 0
  unfold gotV at st
  have Fin := hide fin
  have Hst := hide st
  clear fin st
  go_wp2_with ((with_reducible refine wpList_store_run Hst.out _ _ ?_ rfl ?_ ?_ ?_); (rfl); (rfl); (rfl))
  refine bodyPost_ret (v := .tuple #[.agg (gotV ((x.toNat : Int)) (0) none 0 0), .bool true]) (results_row_tmp rfl _ _ (w.heap.size + 1) _ (gotV ((x.toNat : Int)) (0) none 0 0) (0, 0) _ (.bool true) rfl rfl (Fin.out.1.set) Tryd.underlying36 rfl info36) rfl ?_
  exact ⟨_, _, rfl, BS.nil _ _, (Fin.out.2 _).1, (Fin.out.2 _).2, fun hz => absurd hz (by simp)⟩
set_option maxHeartbeats 1000000 in
theorem look_1e (r c pos start : Nat) (A : Option Addr) (l : List UInt8) (w : World) (k : Nat) (h : Zin w r A c l pos start) (hl : l.length ≤ 2147483647) (hp : pos ≤ l.length) (hs : start ≤ pos) (hk : pos + k = l.length) :
    Calls Tryd.prog 13 #[.pointer (some ⟨r, 0, none⟩), .agg #[.int .i64 1, .int .i64 (k : Int)]] w (StepBad r A c l w) := by
  have h2 := (h.alloc (stp 1 (k : Int))).alloc res0
  have hlt := h.lt
  have hA := h.adr

  have t1 : IntKind.i64.wrap ((pos : Int) + (k : Int)) = (pos : Int) + (k : Int) := IntWalk.i64_in _ (by omega)
  have ko : ((pos : Int) + (k : Int) == (l.length : Int)) = true := by rw [beq_iff_eq]; omega
  unfold stp res0 got0 gotV at h2
  have H2 := hide h2
  have HA := hide hA
  clear h h2 hA
  go_enter Tryd.func13, Tryd.ntmps13
  go_wp2_with fail
  refine (inside_yes r c pos start _ l _ k H2.out hl hp (by omega)).mono ?_
  rintro e w1 ⟨rfl, m, hm⟩
  obtain ⟨Z1, G1, s0, s1, hsz⟩ := stp_behind 1 (k : Int) hlt H2.out hm
  clear hm H2
  have c0 := Z1.c0
  have c2 := Z1.c2
  have HZ := hide Z1
  have HG := hide G1
  clear Z1 G1
  go_wp2
  go_quiet (fail)
  have fin := zin_fin (stp 1 (k : Int)) hlt HA.out (HZ.out.drewN nq) (HG.out.trans (grown_drewN _ nq _))
  have st := run_st36 fin.1 rfl (0) (0) none 0 0
  unfold gotV at st
  have Fin := hide fin
  have Hst := hide st
  clear fin st
  go_wp2_with ((with_reducible refine wpList_store_run Hst.out _ _ ?_ rfl ?_ ?_ ?_); (rfl); (rfl); (rfl))
  refine bodyPost_ret (v := .tuple #[.agg (gotV 0 0 none 0 0), .bool false]) (results_row_tmp rfl _ _ (w.heap.size + 1) _ (gotV 0 0 none 0 0) (0, 0) _ (.bool false) rfl rfl (Fin.out.1.set) Tryd.underlying36 rfl info36) rfl ?_
  exact ⟨rfl, ⟨_, _, (Fin.out.2 _).1⟩, (Fin.out.2 _).2⟩
set_option maxHeartbeats 1000000 in
theorem look_1h (r c pos start : Nat) (A : Option Addr) (l : List UInt8) (w : World) (k : Nat) (x : UInt8) (h : Zin w r A c l pos start) (hl : l.length ≤ 2147483647) (hp : pos ≤ l.length) (hs : start ≤ pos) (hx : l[pos + k]? = some x) (h128 : 128 ≤ x.toNat) :
    Calls Tryd.prog 13 #[.pointer (some ⟨r, 0, none⟩), .agg #[.int .i64 1, .int .i64 (k : Int)]] w (StepBad r A c l w) := by
  have h2 := (h.alloc (stp 1 (k : Int))).alloc res0
  have hlt := h.lt
  have hA := h.adr

  have hk := (List.getElem?_eq_some_iff.1 hx).1
  have t1 : IntKind.i64.wrap ((pos : Int) + (k : Int)) = (pos : Int) + (k : Int) := IntWalk.i64_in _ (by omega)
  have ko : ((pos : Int) + (k : Int) == (l.length : Int)) = false := by rw [beq_eq_false_iff_ne]; omega
  have h128i : (128 : Int) ≤ (x.toNat : Int) := by omega
  have h128d : decide ((128 : Int) ≤ (x.toNat : Int)) = true := decide_eq_true h128i
  have hx256 := x.toNat_lt
  have hkl := (List.getElem?_eq_some_iff.1 hx).1
  have e1 : ((pos : Int) + (k : Int)).toNat = pos + k := by omega
  have hk1 : (pos : Int) + (k : Int) < (l.length : Int) := by omega
  unfold stp res0 got0 gotV at h2
  have H2 := hide h2
  have HA := hide hA
  clear h h2 hA
  go_enter Tryd.func13, Tryd.ntmps13
  go_wp2_with fail
  refine (inside_yes r c pos start _ l _ k H2.out hl hp (by omega)).mono ?_
  rintro e w1 ⟨rfl, m, hm⟩
  obtain ⟨Z1, G1, s0, s1, hsz⟩ := stp_behind 1 (k : Int) hlt H2.out hm
  clear hm H2
  have c0 := Z1.c0
  have c2 := Z1.c2
  obtain ⟨b, o, rfl, cell⟩ := Z1.bs.at_ hx
  clear hx
  have HZ := hide Z1
  have HG := hide G1
  clear Z1 G1
  go_wp2
  go_quiet (fail)
  have fin := zin_fin (stp 1 (k : Int)) hlt HA.out (HZ.out.drewN nq) (HG.out.trans (grown_drewN _ nq _))
  have st := run_st36 fin.1 rfl (0) (0) none 0 0
  unfold gotV at st
  have Fin := hide fin
  have Hst := hide st
  clear fin st
  go_wp2_with ((with_reducible refine wpList_store_run Hst.out _ _ ?_ rfl ?_ ?_ ?_); (rfl); (rfl); (rfl))
  refine bodyPost_ret (v := .tuple #[.agg (gotV 0 0 none 0 0), .bool false]) (results_row_tmp rfl _ _ (w.heap.size + 1) _ (gotV 0 0 none 0 0) (0, 0) _ (.bool false) rfl rfl (Fin.out.1.set) Tryd.underlying36 rfl info36) rfl ?_
  exact ⟨rfl, ⟨_, _, (Fin.out.2 _).1⟩, (Fin.out.2 _).2⟩
set_option maxHeartbeats 1000000 in
theorem look_1n (r c pos start : Nat) (A : Option Addr) (l : List UInt8) (w : World) (k : Nat) (x : UInt8) (h : Zin w r A c l pos start) (hl : l.length ≤ 2147483647) (hp : pos ≤ l.length) (hs : start ≤ pos) (hx : l[pos + k]? = some x) (h128 : x.toNat < 128) :
    Calls Tryd.prog 13 #[.pointer (some ⟨r, 0, none⟩), .agg #[.int .i64 1, .int .i64 (k : Int)]] w (StepRet r A c l (pos) (start) ((x.toNat : Int)) (1) ([]) w) := by
  have h2 := (h.alloc (stp 1 (k : Int))).alloc res0
  have hlt := h.lt
  have hA := h.adr

  have hk := (List.getElem?_eq_some_iff.1 hx).1
  have t1 : IntKind.i64.wrap ((pos : Int) + (k : Int)) = (pos : Int) + (k : Int) := IntWalk.i64_in _ (by omega)
  have ko : ((pos : Int) + (k : Int) == (l.length : Int)) = false := by rw [beq_eq_false_iff_ne]; omega
  have h128i : ¬ (128 : Int) ≤ (x.toNat : Int) := by omega
  have h128d : decide ((128 : Int) ≤ (x.toNat : Int)) = false := decide_eq_false h128i
  have hx256 := x.toNat_lt
  have hkl := (List.getElem?_eq_some_iff.1 hx).1
  have e1 : ((pos : Int) + (k : Int)).toNat = pos + k := by omega
  have hk1 : (pos : Int) + (k : Int) < (l.length : Int) := by omega
  unfold stp res0 got0 gotV at h2
  have H2 := hide h2
  have HA := hide hA
  clear h h2 hA
  go_enter Tryd.func13, Tryd.ntmps13
  go_wp2_with fail
  refine (inside_yes r c pos start _ l _ k H2.out hl hp (by omega)).mono ?_
  rintro e w1 ⟨rfl, m, hm⟩
  obtain ⟨Z1, G1, s0, s1, hsz⟩ := stp_behind 1 (k : Int) hlt H2.out hm
  clear hm H2
  have c0 := Z1.c0
  have c2 := Z1.c2
  obtain ⟨b, o, rfl, cell⟩ := Z1.bs.at_ hx
  clear hx
  have HZ := hide Z1
  have HG := hide G1
  clear Z1 G1
  go_wp2
  go_quiet (fail)
  have fin := zin_fin (stp 1 (k : Int)) hlt HA.out (HZ.out.drewN nq) (HG.out.trans (grown_drewN _ nq _))
  have st := run_st36 fin.1 rfl ((x.toNat : Int)) (1) none 0 0
  unfold gotV at st
  have Fin := hide fin
  have Hst := hide st
  clear fin st
  go_wp2_with ((with_reducible refine wpList_store_run Hst.out _ _ ?_ rfl ?_ ?_ ?_); (rfl); (rfl); (rfl))
  refine bodyPost_ret (v := .tuple #[.agg (gotV ((x.toNat : Int)) (1) none 0 0), .bool true]) (results_row_tmp rfl _ _ (w.heap.size + 1) _ (gotV ((x.toNat : Int)) (1) none 0 0) (0, 0) _ (.bool true) rfl rfl (Fin.out.1.set) Tryd.underlying36 rfl info36) rfl ?_
  exact ⟨_, _, rfl, BS.nil _ _, (Fin.out.2 _).1, (Fin.out.2 _).2, fun hz => absurd hz (by simp)⟩
end Go.Proofs.YthfnahcaoeggbaaDoor
