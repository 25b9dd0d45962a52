/- Texts one behind the other: 'append([]byte{}, a...)' and what is appended to it. Conditions: lengths below 2^32. -/
import Derived.Test.YtnepjlfkbmindaaDoorWords
namespace Go.Proofs.YtnepjlfkbmindaaDoor
open Go.RowKit
set_option linter.unusedVariables false

/-- 'append([]byte{}, a...)', the empty slice just made. -/
theorem cat0 (w : World) {a : Option Addr} {l : List UInt8} (bs : BS w a l) (c : Nat) (hl : l.length ≤ 4294967296) :
    ∃ A' c' w', (Builtin.append_ #[26, 26] 26 #[.slice (some ⟨w.heap.size, 0, none⟩) 0 0, .slice a l.length c]).run Tryd.prog (w.alloc (.cells #[] 5)) = .ok (.slice A' l.length c') w' ∧
      OwnB w' w.heap.size A' l.length c' l ∧ Below w.heap.size w w' := by
  have own0 : OwnB (w.alloc (.cells #[] 5)) w.heap.size (some ⟨w.heap.size, 0, none⟩) 0 0 [] := OwnB.empty w (Nat.le_refl _) rfl
  obtain ⟨A', c', w', hrun, own, hg, _⟩ := run_append8 (P := Tryd.prog) 26 26 Tryd.underlying26 u8_info own0 (bs.alloc _) l.length c rfl (by omega) (by simp)
  have hb := own0.bel ((Below.refl _ _).alloc (Nat.le_refl _) _) hg (by simp)
  rw [Nat.zero_add] at hrun own
  exact ⟨A', c', w', hrun, own, hb⟩
/-- One more text behind it. -/
theorem catS {w0 w : World} {A : Option Addr} {n c : Nat} {l : List UInt8} (own : OwnB w w0.heap.size A n c l) (hb : Below w0.heap.size w0 w) {a : Option Addr} {m : List UInt8} (bs : BS w0 a m) (d : Nat) (hl : n + m.length ≤ 4294967296) :
    ∃ A' c' w', (Builtin.append_ #[26, 26] 26 #[.slice A n c, .slice a m.length d]).run Tryd.prog w = .ok (.slice A' (n + m.length) c') w' ∧
      OwnB w' w0.heap.size A' (n + m.length) c' (l ++ m) ∧ Below w0.heap.size w0 w' := by
  obtain ⟨A', c', w', hrun, own', hg, _⟩ := run_append8 (P := Tryd.prog) 26 26 Tryd.underlying26 u8_info own (bs.below hb) m.length d rfl (by omega) hb.size
  exact ⟨A', c', w', hrun, own', own.bel hb hg hb.size⟩
/-- An append whose run is known, guarded or not, in the walk. -/
theorem wpList_append_runG {P : Program} {ops : Array Oper} {rest : List Oper} {o : Oper} {a : Act} {w : World} {Q : Exit → Act → World → Prop} {vs vx v' : Value} {w' : World} {T U : TypeId}
    (hrun : (Builtin.append_ #[T, U] T #[vs, vx]).run P w = .ok v' w') (s x : Operand) (hw : Region.wanted o (yielded ops a.tmps) = true) (hty : o.type = T)
    (ho : o.op = .call { callee := .builtin .append, args := #[s, x], argTypes := #[T, U] }) (hs : a.eval s = vs) (hx : a.eval x = vx)
    (h : wpList P ops Q rest (a.put o.dst v') w') : wpList P ops Q (o :: rest) a w := by
  refine wpList_step fun K hK => ?_
  rw [if_pos hw]
  subst hty
  unfold Oper.wp execOp
  simp only [ho, resolve, invoke, builtin, Sem.run_bind, Sem.run_pure, Result.andThen_ok, List.map_toArray, List.map_cons, List.map_nil, hs, hx, hrun]
  exact hK _ _ h
/-- The same as one step of a region that draws its order. -/
theorem step_append_runG {P : Program} {ops : Array Oper} {o : Oper} {a : Act} {w : World} {K : Act → World → Prop} {Q : Exit → Act → World → Prop} {E : Prop} {vs vx v' : Value} {w' : World} {T U : TypeId}
    (hrun : (Builtin.append_ #[T, U] T #[vs, vx]).run P w = .ok v' w') (s x : Operand) (hw : Region.wanted o (yielded ops a.tmps) = true) (hty : o.type = T)
    (ho : o.op = .call { callee := .builtin .append, args := #[s, x], argTypes := #[T, U] }) (hs : a.eval s = vs) (hx : a.eval x = vx)
    (hK : K (a.put o.dst v') w') : if Region.wanted o (yielded ops a.tmps) = true then Oper.wp P o a w K Q else E := by
  rw [if_pos hw]
  subst hty
  unfold Oper.wp execOp
  simp only [ho, resolve, invoke, builtin, Sem.run_bind, Sem.run_pure, Result.andThen_ok, List.map_toArray, List.map_cons, List.map_nil, hs, hx, hrun]
  exact hK
end Go.Proofs.YtnepjlfkbmindaaDoor
