/- Copying into a row of the call's own; slices of it; look-ups whose run is known. Conditions: within the row's length. -/
import Derived.Test.YtnepjlfkbmindaaDoorInpl
import Derived.Test.YtnepjlfkbmindaaDoorCat
import Derived.Deep.RegionLaw
namespace Go.Proofs.YtnepjlfkbmindaaDoor
open Go.RowKit
set_option linter.unusedVariables false
set_option linter.unusedSimpArgs false

/-- A copy into the row: m is put at place o. -/
theorem OwnB.copy_in {w : World} {base n c g : Nat} {A : Option Addr} {l m : List UInt8} (own : OwnB w base (some ⟨g, 0, none⟩) n c l) (bs : BS w A m) (o dLen dCap d k r : Nat) (hk : m.length = k) (hd : k ≤ dLen) (ho : o + k ≤ n) (hr : r = k) :
    ∃ w', (Builtin.copy_ #[26, 26] 3 #[.slice (some ⟨g, o, none⟩) dLen dCap, .slice A k d]).run Tryd.prog w = .ok (.int .i64 (r : Int)) w' ∧ OwnB w' base (some ⟨g, 0, none⟩) n c (l.take o ++ m ++ l.drop (o + k)) ∧ w.grownBy w' (some g) := by
  rw [hr]
  clear hr
  have hln := own.len
  rcases Nat.eq_zero_or_pos m.length with h0 | h0
  · obtain rfl : m = [] := List.eq_nil_of_length_eq_zero h0
    obtain rfl : k = 0 := hk.symm
    refine ⟨w, run_copy_none w _ _ _ _ _ _ dLen dCap 0 d Tryd.underlying26 (by kernel_rfl) (by simp), ?_, World.grownBy.refl w _⟩
    simpa using own
  · subst hk
    obtain ⟨b, o', rfl, _, hc⟩ := bs.form h0
    have hown := own.2
    rcases hown.2 with ⟨e, hn⟩ | ⟨g', cap, cur, e, hg, hw, h1, h2, h3, h4⟩
    · injection e with e1 _ _
      cases e1
    · injection e with e1 e2 e3
      injection e1 with e1
      injection e1 with e1 _ _
      subst e1 e3
      have hcs : n ≤ cur.size := by
        have := congrArg List.length h4
        simp at this
        omega
      have hrun := run_copy_row (P := Tryd.prog) w 26 26 3 5 g o dLen dCap ⟨b, o', none⟩ m.length d cur 5 (m.map bv) Tryd.underlying26 (by kernel_rfl) hw (by show _ = min m.length dLen; simp; omega)
        (fun j v hj => by
          obtain ⟨hj1, hj2⟩ := List.getElem?_eq_some_iff.1 hj
          have hj3 : j < m.length := by simpa using hj1
          have := hc j hj3
          have e : (⟨b, o', none⟩ : Addr).add j = ⟨b, o' + j, none⟩ := by
            unfold Addr.add
            split
            · rename_i h0; subst h0; rfl
            · rfl
          rw [e, this, ← hj2]
          simp)
        (by simp; omega) (fun v hv => by obtain ⟨x, _, rfl⟩ := List.mem_map.1 hv; rfl)
      have e1 : goInt (m.map bv).length = .int .i64 (m.length : Int) := by simp [goInt]
      rw [e1] at hrun
      refine ⟨_, hrun, ⟨by simp; omega, by simp; omega, .inr ⟨g, c, (cur.toList.take o ++ m.map bv ++ cur.toList.drop (o + (m.map bv).length)).toArray, rfl, hg, setRow_heap w g cur _ _ _ hw, h1, h2, ?_, ?_⟩⟩, ?_⟩
      · simp
        have := h3
        omega
      · have h4' : cur.toList.take n = l.map bv := by simpa using h4
        have e3 : (cur.toList.take o ++ m.map bv ++ cur.toList.drop (o + (m.map bv).length)).take n = (l.take o ++ m ++ l.drop (o + m.length)).map bv := by
          rw [List.map_append, List.map_append, List.map_take, List.map_drop, ← h4', List.take_take, Nat.min_eq_left (by omega), List.length_map, List.append_assoc, List.append_assoc]
          have la : (cur.toList.take o).length = o := by rw [List.length_take, Array.length_toList]; omega
          rw [List.take_append, la, List.take_of_length_le (l := cur.toList.take o) (by rw [la]; omega), List.take_append, List.length_map, List.take_of_length_le (l := m.map bv) (by simp; omega), List.drop_take, show n - o - m.length = n - (o + m.length) by omega]
        simpa using e3
      · exact ⟨rfl, rfl, rfl, by simp [World.setRow], fun i _ hne => setRow_other w g i _ (fun e => hne (by rw [e]))⟩
/-- 'b[lo:]' where something is behind lo. -/
theorem run_loE {P : Program} (T : TypeId) (hu : P.underlying T = some (.slice 5)) (hs : (P.info? 5).map (·.size) = some 1) (g n c lo : Nat) (z : Int) (hz : z = (lo : Int)) (h1 : lo ≤ n) (h2 : lo < c) (h3 : n ≤ c) (k : IntKind) (w : World) :
    (Instr.sliceAt T (.slice (some ⟨g, 0, none⟩) n c) (some (.int k z)) none none).run P w = .ok (.slice (some ⟨g, lo, none⟩) (n - lo) (c - lo)) w := by
  subst hz
  obtain ⟨i, hi', hsz⟩ := Option.map_eq_some_iff.1 hs
  have he : P.underlying T = some (.slice (P.elem T)) := by simp [Program.elem, hu]
  rw [run_sliceAt_slice (h := he)]
  have hne : ¬ c = lo := by omega
  have hne2 : ¬ c - lo = 0 := by omega
  simp [Instr.slice, Instr.sliceBounds, Instr.sliceBound, asIntOf, run_underlying hu, sizeOf, typeInfo, hi', hsz, h1, hne, Addr.add]
  intro h0
  omega
/-- A look-up in a map whose run is known. -/
theorem wpList_lookup_runC {P : Program} {ops : Array Oper} {rest : List Oper} {o : Oper} {a : Act} {w : World} {Q : Exit → Act → World → Prop} {t : TypeId} {vm vk v : Value} {b : Bool}
    (hrun : (Instr.lookup t vm vk b).run P w = .ok v w) (m x : Operand) (hw : Region.wanted o (yielded ops a.tmps) = true) (ho : o.op = .lookup t m x b) (hm : a.eval m = vm) (hx : a.eval x = vk)
    (h : wpList P ops Q rest (a.put o.dst v) w) : wpList P ops Q (o :: rest) a w := by
  refine wpList_step fun K hK => ?_
  rw [if_pos hw]
  subst hm hx
  unfold Oper.wp execOp
  simp only [ho, Sem.run_bind, Sem.run_pure, Result.andThen_ok, hrun]
  exact hK _ _ h
/-- A copy whose run is known. -/
theorem wpList_copy_runG {P : Program} {ops : Array Oper} {rest : List Oper} {o : Oper} {a : Act} {w : World} {Q : Exit → Act → World → Prop} {vd vx v' : Value} {w' : World} {T U Y : TypeId}
    (hrun : (Builtin.copy_ #[T, U] Y #[vd, vx]).run P w = .ok v' w') (d x : Operand) (hw : Region.wanted o (yielded ops a.tmps) = true) (hty : o.type = Y)
    (ho : o.op = .call { callee := .builtin .copy, args := #[d, x], argTypes := #[T, U] }) (hd : a.eval d = vd) (hx : a.eval x = vx)
    (h : wpList P ops Q rest (a.put o.dst v') w') : wpList P ops Q (o :: rest) a w := by
  refine wpList_step fun K hK => ?_
  rw [if_pos hw]
  subst hty
  unfold Oper.wp execOp
  simp only [ho, resolve, invoke, builtin, Sem.run_bind, Sem.run_pure, Result.andThen_ok, List.map_toArray, List.map_cons, List.map_nil, hd, hx, hrun]
  exact hK _ _ h
/-- .. as one step of a region that draws its order. -/
theorem step_copy_runG {P : Program} {ops : Array Oper} {o : Oper} {a : Act} {w : World} {K : Act → World → Prop} {Q : Exit → Act → World → Prop} {E : Prop} {vd vx v' : Value} {w' : World} {T U Y : TypeId}
    (hrun : (Builtin.copy_ #[T, U] Y #[vd, vx]).run P w = .ok v' w') (d x : Operand) (hw : Region.wanted o (yielded ops a.tmps) = true) (hty : o.type = Y)
    (ho : o.op = .call { callee := .builtin .copy, args := #[d, x], argTypes := #[T, U] }) (hd : a.eval d = vd) (hx : a.eval x = vx)
    (hK : K (a.put o.dst v') w') : if Region.wanted o (yielded ops a.tmps) = true then Oper.wp P o a w K Q else E := by
  rw [if_pos hw]
  subst hty
  unfold Oper.wp execOp
  simp only [ho, resolve, invoke, builtin, Sem.run_bind, Sem.run_pure, Result.andThen_ok, List.map_toArray, List.map_cons, List.map_nil, hd, hx, hrun]
  exact hK
end Go.Proofs.YtnepjlfkbmindaaDoor
