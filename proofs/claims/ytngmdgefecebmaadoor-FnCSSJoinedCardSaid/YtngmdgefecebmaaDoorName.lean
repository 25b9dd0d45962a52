/- The name of a kind of tokens is some text. Condition: the kind is one of the lexer's. -/
import Derived.Test.YtngmdgefecebmaaDoorWords
import Derived.Deep.DeepCutAuto
import Derived.Deep.WholeRow
namespace Go.Proofs.YtngmdgefecebmaaDoor
open Go.RowKit
set_option linter.unusedVariables false
set_option linter.unusedSimpArgs false

def names : Array Value := #[.string ⟨#[]⟩, .string ⟨#[105, 100, 101, 110, 116]⟩, .string ⟨#[102, 117, 110, 99, 116, 105, 111, 110]⟩, .string ⟨#[97, 116]⟩, .string ⟨#[104, 97, 115, 104]⟩, .string ⟨#[115, 116, 114, 105, 110, 103]⟩, .string ⟨#[98, 97, 100, 32, 115, 116, 114, 105, 110, 103]⟩, .string ⟨#[117, 114, 108]⟩, .string ⟨#[98, 97, 100, 32, 117, 114, 108]⟩, .string ⟨#[100, 101, 108, 105, 109]⟩, .string ⟨#[110, 117, 109, 98, 101, 114]⟩, .string ⟨#[112, 101, 114, 99, 101, 110, 116, 97, 103, 101]⟩, .string ⟨#[100, 105, 109, 101, 110, 115, 105, 111, 110]⟩, .string ⟨#[114, 97, 110, 103, 101]⟩, .string ⟨#[126, 61]⟩, .string ⟨#[124, 61]⟩, .string ⟨#[94, 61]⟩, .string ⟨#[36, 61]⟩, .string ⟨#[42, 61]⟩, .string ⟨#[124, 124]⟩, .string ⟨#[98, 108, 97, 110, 107]⟩, .string ⟨#[60, 33, 45, 45]⟩, .string ⟨#[45, 45, 62]⟩, .string ⟨#[58]⟩, .string ⟨#[59]⟩, .string ⟨#[44]⟩, .string ⟨#[91]⟩, .string ⟨#[93]⟩, .string ⟨#[40]⟩, .string ⟨#[41]⟩, .string ⟨#[123]⟩, .string ⟨#[125]⟩, .string ⟨#[99, 111, 109, 109, 101, 110, 116]⟩]
theorem names_at (k : Nat) (hk : k < 33) : ∃ s, names[k]? = some (.string s) := by
  have h : ∀ i : Fin 33, (match names[i.val]? with | some (.string _) => true | _ => false) = true := by decide +kernel
  have := h ⟨k, hk⟩
  revert this
  cases names[k]? with
  | none => intro h; cases h
  | some v => cases v with
    | string s => intro _; exact ⟨s, rfl⟩
    | _ => intro h; cases h
theorem wpList_build_runX {P : Program} {ops : Array Oper} {rest : List Oper} {o : Oper} {a : Act} {w : World} {Q : Exit → Act → World → Prop} {t : TypeId} {v : Value} {els : Array (Nat × Operand)} {vals : Array (Nat × Value)}
    (hrun : (Instr.build t vals).run P w = .ok v w) (hw : Region.wanted o (yielded ops a.tmps) = true) (ho : o.op = .build t els) (he : (els.map fun (i, x) => (i, a.eval x)) = vals)
    (h : wpList P ops Q rest (a.put o.dst v) w) : wpList P ops Q (o :: rest) a w := by
  refine wpList_step fun K hK => ?_
  rw [if_pos hw]
  subst he
  unfold Oper.wp execOp
  simp only [ho, Sem.run_bind, Sem.run_pure, Result.andThen_ok, hrun]
  exact hK _ _ h
theorem wpList_alloc_run {P : Program} {ops : Array Oper} {rest : List Oper} {o : Oper} {a : Act} {w w' : World} {Q : Exit → Act → World → Prop} {t : TypeId} {v : Value}
    (hrun : (Instr.alloc t true (.tuple #[])).run P w = .ok v w') (hw : Region.wanted o (yielded ops a.tmps) = true) (ho : o.op = .alloc t)
    (h : wpList P ops Q rest (a.put o.dst v) w') : wpList P ops Q (o :: rest) a w := by
  refine wpList_step fun K hK => ?_
  rw [if_pos hw]
  unfold Oper.wp execOp
  simp only [ho, Sem.run_bind, Sem.run_pure, Result.andThen_ok, hrun]
  exact hK _ _ h
theorem wpList_store_run {P : Program} {ops : Array Oper} {rest : List Oper} {o : Oper} {a : Act} {w w' : World} {Q : Exit → Act → World → Prop} {t : TypeId} {vp vx : Value}
    (hrun : (Instr.storeAt t vp vx).run P w = .ok () w') (p x : Operand) (hw : Region.wanted o (yielded ops a.tmps) = true) (ho : o.op = .store t p x) (hp : a.eval p = vp) (hx : a.eval x = vx)
    (h : wpList P ops Q rest (a.put o.dst undef) w') : wpList P ops Q (o :: rest) a w := by
  refine wpList_step fun K hK => ?_
  rw [if_pos hw]
  subst hp hx
  unfold Oper.wp execOp
  simp only [ho, Sem.run_bind, Sem.run_pure, Result.andThen_ok, hrun]
  exact hK _ _ h
def none33 : Array Value := (List.replicate 33 (Value.string ⟨#[]⟩)).toArray
def parts33 : Array (Nat × Value) := ((List.range 32).map fun i => (i + 1, names.getD (i + 1) undef)).toArray
theorem info33 : (Tryd.prog.info? 53).map (·.size) = some 33 := by kernel_rfl
theorem run_build33 (w : World) : (Instr.build 53 parts33).run Tryd.prog w = .ok (.agg names) w :=
  run_build w _ _ _ (by kernel_rfl)
theorem run_alloc33 (w : World) : (Instr.alloc 53 true (.tuple #[])).run Tryd.prog w = .ok (.pointer (some ⟨w.heap.size, 0, none⟩)) (w.alloc (.cells none33 53)) := by
  have hz := (zero_of_info (P := Tryd.prog) (t := 53) (v := .agg none33) (n := 33) (by kernel_rfl)).1
  simp [Instr.alloc, hz, newVar, newRow, Value.cells]
theorem run_store33 (w : World) : (Instr.storeAt 53 (.pointer (some ⟨w.heap.size, 0, none⟩)) (.agg names)).run Tryd.prog (w.alloc (.cells none33 53)) = .ok () (w.alloc (.cells names 53)) :=
  run_storeAt_new (P := Tryd.prog) w 53 none33 names (by exact info33) rfl (by kernel_rfl)
def NameRet (w : World) (e : Ending) (w' : World) : Prop := (∃ s, e = .returned (.string s)) ∧ Below w.heap.size w w'
set_option maxHeartbeats 1000000 in
theorem name_any (k : Nat) (w : World) (h1 : k ≤ 40) :
    Calls Tryd.prog 11 #[.int .u32 (k : Int)] w (NameRet w) := by
  have kw : IntKind.i64.wrap (k : Int) = (k : Int) := by rw [IntKind.wrap_i64]; omega
  have hc : k < 33 → ∃ s, (w.alloc (.cells names 53)).cell? ⟨w.heap.size, k, none⟩ = some (.string s) := fun h => by
    rw [cell_of_row (w.alloc (.cells names 53)) w.heap.size k names 53 (0, 0) (heap_alloc_new w _)]
    exact names_at k h
  have Hc := hide hc
  clear hc
  by_cases hk : 33 ≤ k
  · go_enter Tryd.func11, Tryd.ntmps11
    go_wp2_with (first
      | ((with_reducible refine wpList_build_runX (run_build33 _) ?_ rfl ?_ ?_); (rfl); (kernel_rfl))
      | ((with_reducible refine wpList_alloc_run (run_alloc33 _) ?_ rfl ?_); (rfl))
      | ((with_reducible refine wpList_store_run (run_store33 _) _ _ ?_ rfl ?_ ?_ ?_); (rfl); (rfl); (rfl)))
    go_ret
    exact ⟨⟨_, rfl⟩, (Below.refl _ _).alloc (Nat.le_refl _) _⟩
  · obtain ⟨s, hs⟩ := Hc.out (by omega)
    go_enter Tryd.func11, Tryd.ntmps11
    go_wp2_with (first
      | ((with_reducible refine wpList_build_runX (run_build33 _) ?_ rfl ?_ ?_); (rfl); (kernel_rfl))
      | ((with_reducible refine wpList_alloc_run (run_alloc33 _) ?_ rfl ?_); (rfl))
      | ((with_reducible refine wpList_store_run (run_store33 _) _ _ ?_ rfl ?_ ?_ ?_); (rfl); (rfl); (rfl)))
    go_ret
    exact ⟨⟨_, rfl⟩, (Below.refl _ _).alloc (Nat.le_refl _) _⟩
end Go.Proofs.YtngmdgefecebmaaDoor
