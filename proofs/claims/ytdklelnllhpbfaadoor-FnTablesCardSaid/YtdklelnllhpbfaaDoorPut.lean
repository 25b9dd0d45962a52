/- Writing into a made row by the builtin copy. Conditions: lengths below 2^31. -/
import Derived.Test.YtdklelnllhpbfaaDoorEsc
import Derived.Test.YtdklelnllhpbfaaDoorInpl
import Derived.Test.YtdklelnllhpbfaaDoorCat
import Derived.Deep.RegionLaw
namespace Go.Proofs.YtdklelnllhpbfaaDoor
open Go.RowKit
set_option linter.unusedVariables false

/-- A copy whose run is known, as one step of a region that draws its order. -/
theorem step_copy_runG {P : Program} {ops : Array Oper} {o : Oper} {a : Act} {w : World} {K : Act → World → Prop} {Q : Exit → Act → World → Prop} {E : Prop} {vd vx v' : Value} {w' : World} {T U Y : TypeId}
    (hrun : (Builtin.copy_ #[T, U] Y #[vd, vx]).run P w = .ok v' w') (d x : Operand) (hw : Region.wanted o (yielded ops a.tmps) = true) (hty : o.type = Y)
    (ho : o.op = .call { callee := .builtin .copy, args := #[d, x], argTypes := #[T, U] }) (hd : a.eval d = vd) (hx : a.eval x = vx)
    (hK : K (a.put o.dst v') w') : if Region.wanted o (yielded ops a.tmps) = true then Oper.wp P o a w K Q else E := by
  rw [if_pos hw]
  subst hty
  unfold Oper.wp execOp
  simp only [ho, resolve, invoke, builtin, Sem.run_bind, Sem.run_pure, Result.andThen_ok, List.map_toArray, List.map_cons, List.map_nil, hd, hx, hrun]
  exact hK
/-- The same outside of such a region. -/
theorem wpList_copy_runG {P : Program} {ops : Array Oper} {rest : List Oper} {o : Oper} {a : Act} {w : World} {Q : Exit → Act → World → Prop} {vd vx v' : Value} {w' : World} {T U Y : TypeId}
    (hrun : (Builtin.copy_ #[T, U] Y #[vd, vx]).run P w = .ok v' w') (d x : Operand) (hw : Region.wanted o (yielded ops a.tmps) = true) (hty : o.type = Y)
    (ho : o.op = .call { callee := .builtin .copy, args := #[d, x], argTypes := #[T, U] }) (hd : a.eval d = vd) (hx : a.eval x = vx)
    (h : wpList P ops Q rest (a.put o.dst v') w') : wpList P ops Q (o :: rest) a w := by
  refine wpList_step fun K hK => ?_
  rw [if_pos hw]
  subst hty
  unfold Oper.wp execOp
  simp only [ho, resolve, invoke, builtin, Sem.run_bind, Sem.run_pure, Result.andThen_ok, List.map_toArray, List.map_cons, List.map_nil, hd, hx, hrun]
  exact hK _ _ h
/-- m is put at place j of the row. -/
theorem run_put8 {w : World} {g : Nat} {cur m : List UInt8} {B : Option Addr} (hb : Blk8 w g cur) (bs : BS w B m) (j : Nat) (hfit : j + m.length ≤ cur.length) (n k c1 c2 r : Nat) (hn : n = cur.length - j) (hk : m.length = k) (hr : r = k) :
    ∃ w', (Builtin.copy_ #[22, 22] 3 #[.slice (some ⟨g, j, none⟩) n c1, .slice B k c2]).run Tryd.prog w = .ok (.int .i64 (r : Int)) w' ∧ Blk8 w' g (put8 cur j m) ∧ w.grownBy w' (some g) := by
  subst hn hk hr
  obtain ⟨w', hrun, hb', hg, _⟩ := run_copy8 (P := Tryd.prog) 22 3 Tryd.underlying22 (by kernel_rfl) hb bs j (cur.length - j) c1 c2 m.length (by omega) hfit
  rw [List.take_length] at hb'
  exact ⟨w', hrun, hb', hg⟩
/-- Nothing is put. -/
theorem run_put0 (w : World) (D B : Option Addr) (n c1 c2 : Nat) :
    (Builtin.copy_ #[22, 22] 3 #[.slice D n c1, .slice B 0 c2]).run Tryd.prog w = .ok (.int .i64 0) w :=
  run_copy_none w 22 22 3 5 D B n c1 0 c2 Tryd.underlying22 (by kernel_rfl) (by simp)
/-- 'make([]byte, 0, n)'. -/
theorem run_make0 (n : Nat) (z : Int) (hz : z = (n : Int)) (hn : n ≤ 4294967296) (kl kc : IntKind) (w : World) :
    (Instr.makeSlice 22 (.int kl 0) (.int kc z)).run Tryd.prog w = .ok (.slice (some ⟨w.heap.size, 0, none⟩) 0 n) (w.alloc (.cells (madeCells #[.int .u8 0] n) 5)) := by
  subst hz
  obtain ⟨i, hi, hz0, hz1, hz2⟩ := info_parts u8_info
  have hr := run_make (P := Tryd.prog) w 22 5 i (.int .u8 0) Tryd.underlying22 hi hz0 kl kc 0 n (Int.le_refl _) (by omega) (by rw [hz2]; omega) (by omega)
  simp only [Int.toNat_zero, Int.toNat_natCast, hz1, Nat.mul_one] at hr
  exact hr
end Go.Proofs.YtdklelnllhpbfaaDoor
