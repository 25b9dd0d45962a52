/- The package's replacing of bytes by nothing: some bytes of its own, never more than before. Condition: lengths below 2^31. -/
import Derived.Test.YtngmdgefecebmaaDoorLxB
namespace Go.Proofs.YtngmdgefecebmaaDoor
open Go.RowKit
set_option linter.unusedVariables false
set_option linter.unusedSimpArgs false

/-- A conversion whose run is known, in a region that draws and only reads. -/
theorem quiet_conv {P : Program} {o : Oper} {a : Act} {C : World → Prop} {K : Act → Prop} (src dst : TypeId) (x : Operand) (vx v : Value) (ho : o.op = .convert src dst x) (hx : a.eval x = vx)
    (hrun : ∀ w, C w → (convert src dst vx).run P w = .ok v w) (hk : K (a.put o.dst v)) : o.quiet P a C K :=
  ⟨v, fun w hw => by
    unfold Oper.quietAt execOp
    subst hx
    simp only [ho, hrun w hw, Sem.run_bind, Sem.run_pure, Result.andThen_ok]
    exact ⟨rfl, rfl⟩, hk⟩
/-- What is left is a text of its own. -/
def SomeRet (n : Nat) (w : World) (e : Ending) (w' : World) : Prop := ∃ A' k c' m, e = .returned (.slice A' k c') ∧ k ≤ n ∧ BS w' A' m ∧ m.length = k ∧ Below w.heap.size w w'
set_option maxHeartbeats 2000000 in
theorem repl_any (b o : Nat) (B : Option Addr) (l : List UInt8) (n c d : Nat) (w : World) (hn : l.length = n) (hc : n ≤ c) (hs : BS w (some ⟨b, o, none⟩) l) (ho : BS w B [92]) (h1 : n ≤ 2147483647) :
    Calls Tryd.prog 42 #[.slice (some ⟨b, o, none⟩) n c, .slice B 1 d, .slice none 0 0] w (SomeRet n w) := by
  go_enter Tryd.func42, Tryd.ntmps42
  go_wp2
  go_loopg [7, 8] n (fun gk ov iv wr => ∃ (i k : Nat) (A' : Option Addr) (c' : Nat) (out : List UInt8), n - i ≤ gk ∧ k ≤ i ∧ i ≤ n ∧ iv = .int .i64 (i : Int) ∧ ov = .slice A' k c' ∧ OwnB wr w.heap.size A' k c' out ∧ Below w.heap.size w wr)
  case atStart => exact ⟨0, 0, _, _, [], by omega, Nat.le_refl _, Nat.zero_le _, by go_num, rfl, OwnB.nil _ _, Below.refl _ _⟩
  case round =>
    obtain ⟨i, k, A', c', out, hgk, hki, hin, rfl, rfl, own, hbel⟩ := hrel
    by_cases hlt : i < n
    · obtain ⟨x, hx⟩ : ∃ x, l[i]? = some x := ⟨_, List.getElem?_eq_getElem (by omega)⟩
      have hsb := hs.below hbel
      obtain ⟨b1, o1, e1, hcell⟩ := hsb.at_ hx
      obtain ⟨rfl, rfl⟩ : b = b1 ∧ o = o1 := by simpa using e1
      have hs1 := (hsb.cut rfl i).take 1
      have e2 : (l.drop i).take 1 = [x] := by
        obtain ⟨hl, e⟩ := List.getElem?_eq_some_iff.1 hx
        rw [List.drop_eq_getElem_cons hl, e]
        rfl
      rw [e2] at hs1
      have k1 := fun m c => run_str (P := Tryd.prog) (hs1.drewN m) c 22 9 5 Tryd.underlying22 Tryd.underlying5 Tryd.underlying9
      have k2 := fun m c => run_str (P := Tryd.prog) ((ho.below hbel).drewN m) c 22 9 5 Tryd.underlying22 Tryd.underlying5 Tryd.underlying9
      have hd : decide ((i : Int) + 1 ≤ (n : Int)) = true := decide_eq_true (by omega)
      have hic : (i : Int) + 1 ≤ (c : Int) := by omega
      have hii : (i : Int) ≤ (i : Int) + 1 := by omega
      have kw : IntKind.i64.wrap ((i : Int) + 1) = (i : Int) + 1 := by rw [IntKind.wrap_i64]; omega
      have hci : ¬ c = i := by omega
      clear hs1 e1
      go_wp2
      refine wp_region_quiet_lit (by kernel_rfl) (by kernel_rfl) ?_
      repeat (go_big_quiet_step (fail))
      refine BigFrame.wpQuiet_want rfl fun K hK => quiet_conv _ _ _ _ _ rfl rfl (fun w' hw => by obtain ⟨m, rfl⟩ := hw; exact k1 m _) (hK _ ?_)
      clear hK K
      go_simp
      repeat (go_big_quiet_step (fail))
      refine BigFrame.wpQuiet_want rfl fun K hK => quiet_conv _ _ _ _ _ rfl rfl (fun w' hw => by obtain ⟨m, rfl⟩ := hw; exact k2 m _) (hK _ ?_)
      clear hK K
      go_simp
      repeat (go_big_quiet_step (fail))
      refine wpQuiet_nil ?_
      intro nq
      clear k1 k2 hsb
      have own' := own.drewN nq
      have hbel' := below_drewN hbel nq
      cases hxx : (x == 92) with
      | true =>
        obtain ⟨A2, c2, w2, hrun, own2, hbel2⟩ := catS own' hbel' (BS.nil w none) 0 (by simp; omega)
        have Hrun : Hid ((Builtin.append_ #[22, 22] 22 #[.slice A' k c', .slice none 0 0]).run Tryd.prog (wr.drewN nq) = .ok (.slice A2 k c2) w2) := hrun
        clear hrun hxx own hbel hbel' own'
        go_wp2_with (at_builtin; (with_reducible refine wpList_append_runG Hrun.out _ _ ?_ rfl rfl ?_ ?_ ?_); (rfl); (rfl); (rfl))
        go_roundg (n - (i + 1))
        case rel => exact ⟨i + 1, k, A2, c2, _, Nat.le_refl _, by omega, by omega, by go_num, rfl, own2, hbel2⟩
        case measure => omega
      | false =>
        obtain ⟨A2, c2, w2, hrun, own2, hbel2⟩ := snoc8 own' hbel' x (by omega)
        have Hrun := hide hrun
        clear hrun hxx own hbel hbel' own'
        go_wp2_with (at_builtin; (with_reducible refine wpList_append_runG Hrun.out _ _ ?_ rfl rfl ?_ ?_ ?_); (rfl); (rfl); (rfl))
        go_roundg (n - (i + 1))
        case rel => exact ⟨i + 1, k + 1, A2, c2, _, Nat.le_refl _, by omega, by omega, by go_num, rfl, own2, hbel2⟩
        case measure => omega
    · go_wp2
      go_ret
      exact ⟨_, _, _, _, rfl, by omega, own.bs, own.len, hbel⟩
end Go.Proofs.YtngmdgefecebmaaDoor
